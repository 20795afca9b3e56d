/-
  The parity model, plain: the flag that the forward scan bears is the parity of the run of backslashes behind it.
-/
import Derived.Test.Qxb6602432aSeMore
namespace Go.Proofs.Qxb6602432a.Se
open Go

/-- is the run of backslashes that ends just ahead of 'start + m', and opens no earlier than 'start', odd in length? -/
def oddAt (l : List UInt8) (start : Nat) : Nat → Bool
  | 0 => false
  | m + 1 => if l[start + m]? = some 92 then !oddAt l start m else false

theorem odd_yes (s : ByteArray) (start m : Nat) (h : start + m < s.size) (hb : s[start + m] = 92) : oddAt (bs s) start (m + 1) = !oddAt (bs s) start m := by
  rw [oddAt, if_pos (by rw [bs_get s _ h, hb])]

theorem odd_no (s : ByteArray) (start m : Nat) (h : start + m < s.size) (hb : s[start + m] ≠ 92) : oddAt (bs s) start (m + 1) = false := by
  rw [oddAt, if_neg (by rw [bs_get s _ h]; intro h2; exact hb (Option.some.inj h2))]

/-- the flag of the scan, one byte on -/
theorem odd_flag (s : ByteArray) (start m : Nat) (h : start + m < s.size) :
    (!oddAt (bs s) start m && (34 : UInt8) == 34 && s[start + m] == 92) = oddAt (bs s) start (m + 1) := by
  by_cases hb : s[start + m] = 92
  · rw [odd_yes s start m h hb, hb]; simp
  · rw [odd_no s start m h hb]; simp [hb]

theorem scan_short (q : UInt8) (w : Nat) : ∀ (l : List UInt8) (b : Bool), l.length < w → scan q w b l = l.length
  | [], b, _ => by simp [scan]
  | c :: t, b, h => by
    have ih := scan_short q w t (!b && q == 34 && c == 92) (by simp at h; omega)
    have hp : ¬ (!b && pre q w (c :: t)) = true := by
      rw [Bool.and_eq_true]
      rintro ⟨_, h2⟩
      have := pre_len h2
      omega
    rw [scan, if_neg hp, ih]; simp; omega

theorem scan_tail (q : UInt8) (w : Nat) (b : Bool) (s : ByteArray) (j : Nat) (hj : j ≤ s.size) (h : s.size < j + w) : j + scan q w b ((bs s).drop j) = s.size := by
  rw [scan_short q w _ b (by rw [List.length_drop, bs_len]; omega), List.length_drop, bs_len]
  omega

/-- the candidate's quotes, byte by byte -/
theorem pre_all (s : ByteArray) (j w : Nat) (q : UInt8) (hj : j + w ≤ s.size) (h : ∀ k (hk : k < w), s[j + k] = q) : pre q w ((bs s).drop j) = true := by
  rw [pre_iff]
  intro k hk
  rw [List.getElem?_drop, bs_get s (j + k) (by omega), h k hk]

theorem pre_not (s : ByteArray) (j w k : Nat) (q : UInt8) (hj : j + w ≤ s.size) (hk : k < w) (h : s[j + k] ≠ q) : pre q w ((bs s).drop j) = false := by
  rw [← Bool.not_eq_true, pre_iff]
  intro h2
  have := h2 k hk
  rw [List.getElem?_drop, bs_get s (j + k) (by omega)] at this
  exact h (Option.some.inj this)

end Go.Proofs.Qxb6602432a.Se
