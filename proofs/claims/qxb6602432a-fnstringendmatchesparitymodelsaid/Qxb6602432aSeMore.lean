/-
  Facts on how a string closes, said of a Go string's bytes: no walk here.
-/
import Derived.Test.Qxb6602432aSeFacts
namespace Go.Proofs.Qxb6602432a.Se
open Go

theorem end_bounds (s : ByteArray) (n E : Nat) (hn : n < s.size) (hE : E = n + se ((bs s).drop n)) : n < E ∧ E ≤ s.size := by
  rw [bs_drop s n hn] at hE
  have := se_pos s[n] ((bs s).drop (n + 1))
  rw [List.length_cons, List.length_drop, bs_len] at this
  omega

theorem pre3_iff (s : ByteArray) (n : Nat) (q : UInt8) (hn : n < s.size) (hq : s[n] = q) :
    pre q 3 ((bs s).drop n) = true ↔ ∃ h : n + 2 < s.size, s[n + 1] = q ∧ s[n + 2] = q := by
  rw [pre_iff]
  constructor
  · intro h
    have h1 := h 1 (by omega)
    have h2 := h 2 (by omega)
    rw [List.getElem?_drop] at h1 h2
    have hl := (List.getElem?_eq_some_iff.1 h2).1
    rw [bs_len] at hl
    refine ⟨hl, ?_, ?_⟩
    · rw [bs_get s (n + 1) (by omega)] at h1
      exact Option.some.inj h1
    · rw [bs_get s (n + 2) (by omega)] at h2
      exact Option.some.inj h2
  · rintro ⟨h, h1, h2⟩ k hk
    rw [List.getElem?_drop]
    have : k = 0 ∨ k = 1 ∨ k = 2 := by omega
    rcases this with rfl | rfl | rfl
    · rw [Nat.add_zero, bs_get s n hn, hq]
    · rw [bs_get s (n + 1) (by omega), h1]
    · rw [bs_get s (n + 2) (by omega), h2]

theorem close_at (s : ByteArray) (n E W : Nat) (q : UInt8) (hn : n < s.size) (hq : s[n] = q) (hE : E = n + se ((bs s).drop n)) (hW : W = if pre q 3 ((bs s).drop n) = true then 3 else 1)
    (hlt : E < s.size) : n + 2 * W ≤ E ∧ ∀ k (hk : k < s.size), E - W ≤ k → k < E → (s[k].toNat : Int) = q.toNat := by
  subst hq
  have hd := bs_drop s n hn
  have hl : (s[n] :: (bs s).drop (n + 1)).length = s.size - n := by rw [← hd, List.length_drop, bs_len]
  rw [hd] at hE hW
  obtain ⟨g1, g2⟩ := se_close s[n] ((bs s).drop (n + 1)) W hW (by rw [hl]; omega)
  refine ⟨by omega, ?_⟩
  intro k hk h1 h2
  have h3 := g2 (k - n) (by omega) (by omega)
  rw [← hd, List.getElem?_drop, show n + (k - n) = k by omega, bs_get s k hk] at h3
  rw [Option.some.inj h3]

end Go.Proofs.Qxb6602432a.Se
