/-
  Facts that join a Go string's bytes with the plain laws of PlainSe: no walk here.
-/
import Derived.Test.Qxb6602432aPlainSe
import Derived.Lib.Strings
namespace Go.Proofs.Qxb6602432a.Se
open Go

/-- the bytes of a string -/
abbrev bs (s : ByteArray) : List UInt8 := s.data.toList

/-- strings.HasPrefix, as the walk leaves it -/
def hpB (s p : ByteArray) : Bool := decide (p.size ≤ s.size) && ((s.extract 0 p.size).toList == p.toList)

theorem bs_len (s : ByteArray) : (bs s).length = s.size := (Lib.size_eq s).symm

theorem bs_get (s : ByteArray) (j : Nat) (h : j < s.size) : (bs s)[j]? = some s[j] := by
  rw [List.getElem?_eq_getElem (by rw [bs_len]; exact h)]
  rfl

theorem bs_drop (s : ByteArray) (j : Nat) (h : j < s.size) : (bs s).drop j = s[j] :: (bs s).drop (j + 1) := by
  rw [List.drop_eq_getElem_cons (by rw [bs_len]; exact h)]
  rfl

theorem byte_yes {x : UInt8} (c : UInt8) {z : Int} (h : ((x.toNat : Int) == z) = true) (hc : z = (c.toNat : Int)) : x = c := by
  rw [beq_iff_eq] at h
  apply UInt8.toNat_inj.1
  omega

theorem byte_no {x : UInt8} (c : UInt8) {z : Int} (h : ((x.toNat : Int) == z) = false) (hc : z = (c.toNat : Int)) : x ≠ c := by
  rintro rfl
  rw [beq_eq_false_iff_ne] at h
  exact h hc.symm

theorem hpB_pre (s : ByteArray) (j : Nat) (q : UInt8) : hpB (s.extract j s.size) ⟨#[q, q, q]⟩ = pre q 3 ((bs s).drop j) := by
  unfold hpB
  rw [Lib.hasPrefix_raw, Lib.extract_data]
  rw [List.take_of_length_le (by rw [List.length_drop, ← Lib.size_eq]; exact Nat.le_refl _)]
  rw [Bool.eq_iff_iff, pre_iff, Lib.hasPrefix, List.isPrefixOf_iff_prefix]
  show [q, q, q] <+: _ ↔ _
  generalize (bs s).drop j = l
  constructor
  · rintro ⟨t, rfl⟩ k hk
    have : k = 0 ∨ k = 1 ∨ k = 2 := by omega
    rcases this with rfl | rfl | rfl <;> rfl
  · intro h
    match l, h 0 (by omega), h 1 (by omega), h 2 (by omega) with
    | a :: b :: c :: t, h0, h1, h2 =>
      simp at h0 h1 h2
      subst h0 h1 h2
      exact ⟨t, rfl⟩

/-- one turn of the scan: the byte is skipped, or is no opening of the closing quotes -/
theorem scan_no (q : UInt8) (w : Nat) (s : ByteArray) (j : Nat) (h : j < s.size) (b : Bool) (hp : (!b && pre q w ((bs s).drop j)) = false) :
    scan q w b ((bs s).drop j) = 1 + scan q w (!b && q == 34 && s[j] == 92) ((bs s).drop (j + 1)) := by
  rw [bs_drop s j h] at hp ⊢
  rw [scan, if_neg (by rw [hp]; decide)]

theorem scan_yes3 (q : UInt8) (s : ByteArray) (j : Nat) (hp : pre q 3 ((bs s).drop j) = true) :
    scan q 3 false ((bs s).drop j) = 3 + ext q 2 ((bs s).drop (j + 3)) := by
  have hl := pre_len hp
  rw [List.length_drop, bs_len] at hl
  have h : j < s.size := by omega
  rw [show j + 3 = 2 + (j + 1) by omega, ← List.drop_drop]
  rw [bs_drop s j h] at hp ⊢
  rw [scan, if_pos (by rw [hp]; rfl)]
  simp [List.drop_drop]
  congr 2
  omega

theorem scan_yes1 (q : UInt8) (s : ByteArray) (j : Nat) (hp : pre q 1 ((bs s).drop j) = true) :
    scan q 1 false ((bs s).drop j) = 1 := by
  have hl := pre_len hp
  rw [List.length_drop, bs_len] at hl
  have h : j < s.size := by omega
  rw [bs_drop s j h] at hp ⊢
  rw [scan, if_pos (by rw [hp]; rfl)]
  simp

theorem pre1 (q : UInt8) (s : ByteArray) (j : Nat) (h : j < s.size) : pre q 1 ((bs s).drop j) = (s[j] == q) := by
  rw [bs_drop s j h, pre_one]

theorem scan_end (q : UInt8) (w : Nat) (b : Bool) (s : ByteArray) (j : Nat) (h : s.size ≤ j) : scan q w b ((bs s).drop j) = 0 := by
  rw [List.drop_eq_nil_of_le (by rw [bs_len]; exact h)]
  simp [scan]

theorem ext_end (q : UInt8) (k : Nat) (s : ByteArray) (j : Nat) (h : s.size ≤ j) : ext q k ((bs s).drop j) = 0 := by
  rw [List.drop_eq_nil_of_le (by rw [bs_len]; exact h)]
  cases k <;> simp [ext]

theorem ext_step (q : UInt8) (k : Nat) (s : ByteArray) (j : Nat) (h : j < s.size) :
    ext q (k + 1) ((bs s).drop j) = if s[j] = q then 1 + ext q k ((bs s).drop (j + 1)) else 0 := by
  rw [bs_drop s j h, ext]

/-- a backslash in a basic string: it and the byte behind it are passed -/
theorem scan_slash (w : Nat) (s : ByteArray) (j : Nat) (h : j < s.size) (hb : s[j] = 92) (hp : pre 34 w ((bs s).drop j) = false) :
    (j + 2 ≤ s.size ∧ j + scan 34 w false ((bs s).drop j) = j + 2 + scan 34 w false ((bs s).drop (j + 2))) ∨ (j + 2 = s.size + 1 ∧ j + scan 34 w false ((bs s).drop j) = s.size) := by
  rw [scan_no 34 w s j h false (by rw [hp]; rfl), hb]
  by_cases h2 : j + 1 < s.size
  · refine .inl ⟨by omega, ?_⟩
    rw [scan_no 34 w s (j + 1) h2 _ (by simp), show j + 1 + 1 = j + 2 from rfl]
    simp; omega
  · refine .inr ⟨by omega, ?_⟩
    rw [scan_end _ _ _ _ _ (by omega)]; omega

theorem pre_slash (w : Nat) (hw : 0 < w) (s : ByteArray) (j : Nat) (h : j < s.size) (hb : s[j] = 92) : pre 34 w ((bs s).drop j) = false := by
  rw [← Bool.not_eq_true, pre_iff]
  intro h2
  have := h2 0 hw
  rw [List.getElem?_drop, Nat.add_zero, bs_get s j h, hb] at this
  exact absurd this (by decide)

theorem se_at (s : ByteArray) (i : Nat) (h : i < s.size) : se ((bs s).drop i) =
    if pre s[i] 3 ((bs s).drop i) = true then 3 + scan s[i] 3 false ((bs s).drop (i + 3)) else 1 + scan s[i] 1 false ((bs s).drop (i + 1)) := by
  rw [bs_drop s i h, se, List.drop_drop]

end Go.Proofs.Qxb6602432a.Se
