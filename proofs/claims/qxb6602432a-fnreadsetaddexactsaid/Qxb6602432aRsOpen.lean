/-
  A []string THAT CAME IN, opened: what the walks are told of it.
-/
import Derived.Test.Qxb6602432aRsHelp
import Derived.SliceStrings
import Derived.ProofKit
set_option linter.unusedVariables false
namespace Go.Proofs.Qxb6602432a
open Go.ChangeShapes Go.WideShapes Go.ChangeAt Go.RowKit

theorem spot_of_cell {w : World} {a : Addr} {v : Value} (h : w.cell? a = some v) : a.spot = none := by
  unfold World.cell? at h
  split at h
  · split at h
    · cases h
    · rename_i hs; simpa using hs
  · cases h

theorem adr_add {w : World} {a : Addr} {k : Nat} {v : Value} (h : w.cell? (a.add k) = some v) (ha : a.spot = none) : w.cell? (adr (some a) k) = some v := by
  have e : adr (some a) k = a.add k := by
    obtain ⟨ab, ao, sp⟩ := a
    cases ha
    show (⟨ab, ao + k, none⟩ : Addr) = if k = 0 then ⟨ab, ao, none⟩ else ⟨ab, ao + k, none⟩
    by_cases h0 : k = 0
    · rw [if_pos h0, h0]; rfl
    · rw [if_neg h0]
  rw [e]; exact h

theorem open_strsAt {H : Type} {enc : TypeId × Value → H} {W : World} {base : Nat} {a0 : Option Addr} {len cap : Nat} {d : DataW H} {p : List MemPlace} (hv : Value.okWide Try.prog W .any base 25 (.slice a0 len cap))
    (h : DataW.Trod enc Try.prog W 0 (fun _ => true) true 25 (.slice a0 len cap) d p) :
    ∃ ss : Nat → ByteArray, StrsAt W a0 len ss ∧ (a0 = none → len = 0) ∧ len ≤ maxLen ∧ ∀ k, k < len → (ss k).size ≤ maxLen := by
  obtain ⟨fuel, hf⟩ := h
  rcases open_strings Try.underlying25 Try.underlying9 (by kernel_rfl) hf with ⟨hcs, hx⟩ | ⟨a, len', cap', ss, hcs, _, hl, hm, hz, hx, hcell, hws⟩
  · simp [Value.cells] at hcs
    obtain ⟨rfl, rfl, rfl⟩ := hcs
    exact ⟨fun _ => ByteArray.empty, fun k hk => absurd hk (Nat.not_lt_zero _), fun _ => rfl, Nat.zero_le _, fun k hk => absurd hk (Nat.not_lt_zero _)⟩
  · simp [Value.cells] at hcs
    obtain ⟨rfl, rfl, rfl⟩ := hcs
    have hlen : ss.length = cap := by simpa using hz
    refine ⟨fun k => ss.getD k ByteArray.empty, ?_, fun h => (by cases h), by omega, ?_⟩
    · intro k hk
      have h0 := hcell 0 (by omega)
      have hsp : a.spot = none := spot_of_cell (by simpa [Addr.add] using h0)
      exact ⟨⟨a, rfl, hsp⟩, adr_add (hcell k (by omega)) hsp⟩
    · intro k hk
      have : ss.getD k ByteArray.empty = ss[k]'(by omega) := by rw [List.getD_eq_getElem?_getD, List.getElem?_eq_getElem (by omega)]; rfl
      show (ss.getD k ByteArray.empty).size ≤ maxLen
      rw [this]
      exact hws _ (List.getElem_mem _)

end Go.Proofs.Qxb6602432a
