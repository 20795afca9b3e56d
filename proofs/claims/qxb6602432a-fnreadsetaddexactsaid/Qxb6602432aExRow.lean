/-
  A ROW OF BOOLS in memory, and an array's eight cells at once.
-/
import Derived.Test.Qxb6602432aExIfc
set_option linter.unusedVariables false
namespace Go.Proofs.Qxb6602432a
open Go.RowKit Go.Maps

theorem made_bools (n : Nat) : madeCells #[.bool false] n = Array.replicate n (.bool false) := by
  apply Array.ext
  · simp [madeCells]
  · intro i h1 h2
    simp [madeCells, Nat.mod_one]

theorem make31 (w : World) (len : Nat) (hn : len ≤ 65536) : (Instr.makeSlice 31 (.int .i64 (8 + (len : Int) + 1)) (.int .i64 (8 + (len : Int) + 1))).run Try.prog w = .ok (.slice (some ⟨w.heap.size, 0, none⟩) (len + 9) (len + 9)) (w.alloc (.cells (Array.replicate (len + 9) (.bool false)) 4)) := by
  have hinfo : (Try.prog.info? 4).map (fun i => (i.zero, i.size, i.bytes)) = some (some (.bool false), 1, 1) := by kernel_rfl
  have e : 8 + (len : Int) + 1 = ((len + 9 : Nat) : Int) := by omega
  rw [e]
  cases hi : Try.prog.info? 4 with
  | none => rw [hi] at hinfo; cases hinfo
  | some i =>
    rw [hi] at hinfo
    simp at hinfo
    obtain ⟨hz, hs, hb⟩ := hinfo
    have := run_make (P := Try.prog) w 31 4 i (.bool false) Try.underlying31 hi hz .i64 .i64 ((len + 9 : Nat) : Int) ((len + 9 : Nat) : Int) (by omega) (by omega) (by rw [hb]; omega) (by omega)
    rw [this, hs]
    simp only [Int.toNat_natCast, Nat.mul_one, Value.cells, made_bools]

/-- block g of w is a row of n bools of which the first k are those of f -/
def BRow (w : World) (g n k : Nat) (f : Nat → Bool) : Prop := ∃ cur : Array Value, w.heap[g]? = some (.cells cur 4) ∧ cur.size = n ∧ (∀ i, i < n → ∃ s, cur[i]? = some (.bool s)) ∧ ∀ i, i < k → cur[i]? = some (.bool (f i))

theorem BRow.set {w : World} {g n k : Nat} {f : Nat → Bool} (h : BRow w g n k f) (hk : k < n) : BRow (w.setCell ⟨g, k, none⟩ (.bool (f k))) g n (k + 1) f := by
  obtain ⟨cur, hh, hs, ha, hc⟩ := h
  refine ⟨_, heap_setCell_cells hh _, by simpa using hs, ?_, ?_⟩
  · intro i hi
    rw [Array.getElem?_setIfInBounds]
    split
    · rename_i e; subst e; rw [if_pos (by omega)]; exact ⟨_, rfl⟩
    · exact ha i hi
  · intro i hi
    rw [Array.getElem?_setIfInBounds]
    split
    · rename_i e; subst e; rw [if_pos (by omega)]
    · exact hc i (by omega)

theorem BRow.cell {w : World} {g n k : Nat} {f : Nat → Bool} (h : BRow w g n k f) {i : Nat} (hi : i < n) : ∃ s, w.cell? ⟨g, i, none⟩ = some (.bool s) := by
  obtain ⟨cur, hh, hs, ha, hc⟩ := h
  obtain ⟨s, hs⟩ := ha i hi
  exact ⟨s, by simp [World.cell?, hh, hs]⟩

theorem BRow.get {w : World} {g n k : Nat} {f : Nat → Bool} (h : BRow w g n k f) {i : Nat} (hi : i < k) : w.cell? ⟨g, i, none⟩ = some (.bool (f i)) := by
  obtain ⟨cur, hh, hs, ha, hc⟩ := h
  simp [World.cell?, hh, hc i hi]

theorem BRow.free {w : World} {g n k : Nat} {f : Nat → Bool} (h : BRow w g n k f) (i : Nat) : w.frozen? ⟨g, i, none⟩ = false := by
  obtain ⟨cur, hh, hs, ha, hc⟩ := h
  simp [World.frozen?, hh]

theorem BRow.lt {w : World} {g n k : Nat} {f : Nat → Bool} (h : BRow w g n k f) : g < w.heap.size := by
  obtain ⟨cur, hh, _⟩ := h
  exact (Array.getElem?_eq_some_iff.1 hh).1

theorem BRow.kept {S : Nat → Prop} {w w' : World} {g n k : Nat} {f : Nat → Bool} (h : BRow w g n k f) (hk : Kept S w w') (hs : ¬ S g) : BRow w' g n k f := by
  obtain ⟨cur, hh, r⟩ := h
  exact ⟨cur, hk.at hs hh, r⟩

theorem BRow.made (w : World) (n : Nat) (f : Nat → Bool) : BRow (w.alloc (.cells (Array.replicate n (.bool false)) 4)) w.heap.size n 0 f :=
  ⟨_, (MapKept.heap_alloc w _).1, by simp, fun i hi => ⟨false, by simp [hi]⟩, fun i hi => absurd hi (Nat.not_lt_zero _)⟩

theorem ArrB.all {w : World} {bf : Nat} {f : Nat → ByteArray} (h : ArrB w bf f) : w.cell? ⟨bf, 0, none⟩ = some (.string (f 0)) ∧ w.cell? ⟨bf, 1, none⟩ = some (.string (f 1)) ∧ w.cell? ⟨bf, 2, none⟩ = some (.string (f 2)) ∧ w.cell? ⟨bf, 3, none⟩ = some (.string (f 3)) ∧
    w.cell? ⟨bf, 4, none⟩ = some (.string (f 4)) ∧ w.cell? ⟨bf, 5, none⟩ = some (.string (f 5)) ∧ w.cell? ⟨bf, 6, none⟩ = some (.string (f 6)) ∧ w.cell? ⟨bf, 7, none⟩ = some (.string (f 7)) :=
  ⟨h.cell 0 (by omega), h.cell 1 (by omega), h.cell 2 (by omega), h.cell 3 (by omega), h.cell 4 (by omega), h.cell 5 (by omega), h.cell 6 (by omega), h.cell 7 (by omega)⟩

theorem StrsAt.kept' {S : Nat → Prop} {w w' : World} {oa : Option Addr} {len : Nat} {ss : Nat → ByteArray} (h : StrsAt w oa len ss) (hk : Kept S w w') (hs : ∀ a, oa = some a → 0 < len → ¬ S a.block) : StrsAt w' oa len ss := by
  intro k hlt
  obtain ⟨⟨a, rfl, ha⟩, hc⟩ := h k hlt
  exact ⟨⟨a, rfl, ha⟩, hk.cell (p := adr (some a) k) (hs a rfl (by omega)) hc⟩

theorem StrsAt.blk_lt {w : World} {oa : Option Addr} {len : Nat} {ss : Nat → ByteArray} (h : StrsAt w oa len ss) (a : Addr) (ha : oa = some a) (hl : 0 < len) : a.block < w.heap.size := by
  subst ha
  exact World.block_lt_of_cell? w (adr (some a) 0) (h 0 hl).2

theorem Kept.drewN {S : Nat → Prop} {a w : World} (h : Kept S a w) (m : Nat) : Kept S a (w.drewN m) := ⟨h.os, h.tape, h.output, h.size, h.block⟩

theorem pv_last (few ss : Nat → ByteArray) (len : Nat) (name : ByteArray) : pv few ss len name (8 + len) = name := by
  unfold pv
  rw [if_neg (by omega), if_neg (by omega)]

theorem pv_small (few ss : Nat → ByteArray) (len : Nat) (name : ByteArray) (k : Nat) (hf : ∀ k, k < 8 → (few k).size ≤ maxLen) (hs : ∀ k, k < len → (ss k).size ≤ maxLen) (hn : name.size ≤ maxLen) : (pv few ss len name k).size ≤ maxLen := by
  unfold pv
  split
  · exact hf k (by assumption)
  · split
    · exact hs _ (by assumption)
    · exact hn

theorem upd_same (few : Nat → ByteArray) (k : Nat) (x : ByteArray) : upd few k x k = x := by unfold upd; rw [if_pos rfl]

theorem upd_other (few : Nat → ByteArray) (k i : Nat) (x : ByteArray) (h : i ≠ k) : upd few k x i = few i := by unfold upd; rw [if_neg h]

end Go.Proofs.Qxb6602432a
