/-
  WHAT THE WALKS OF THIS SEAT SHARE: what stays of a world; slices as they lie in memory. No walk here.
-/
import Derived.Test.Qxb6601307aRows
import Derived.Maps.OwnSet
import Derived.Lib.Strings
import Derived.Laws.MakeOwn
import Derived.WalkKit
import Derived.WalkSpells
import Derived.WalkLawsBesides
import Derived.Deep.QuietTactic
import Derived.BigQuiet
import Derived.Deep.RegionWith
set_option linter.unusedVariables false
namespace Go.Proofs.Qxb6601307a
open Go.RowKit Go.Maps

/-! ### What stays of a world -/

/-- w' is w but for the blocks of S, new blocks and draws. -/
structure Kept (S : Nat → Prop) (w w' : World) : Prop where
  os : w'.os = w.os
  tape : w'.tape = w.tape
  output : w'.output = w.output
  size : w.heap.size ≤ w'.heap.size
  block : ∀ k, k < w.heap.size → ¬ S k → w'.heap[k]? = w.heap[k]?

theorem Kept.refl (S : Nat → Prop) (w : World) : Kept S w w := ⟨rfl, rfl, rfl, Nat.le_refl _, fun _ _ _ => rfl⟩

theorem Kept.trans {S : Nat → Prop} {a b c : World} (h : Kept S a b) (k : Kept S b c) : Kept S a c :=
  ⟨k.os.trans h.os, k.tape.trans h.tape, k.output.trans h.output, Nat.le_trans h.size k.size, fun i hi hs => (k.block i (Nat.lt_of_lt_of_le hi h.size) hs).trans (h.block i hi hs)⟩

theorem Kept.mono {S T : Nat → Prop} {a b : World} (h : Kept S a b) (hst : ∀ k, k < a.heap.size → S k → T k) : Kept T a b :=
  ⟨h.os, h.tape, h.output, h.size, fun i hi hs => h.block i hi (fun hk => hs (hst i hi hk))⟩

theorem Kept.drew {S : Nat → Prop} {a w : World} (h : Kept S a w) : Kept S a w.drew := ⟨h.os, h.tape, h.output, h.size, h.block⟩

theorem Kept.alloc {S : Nat → Prop} {a w : World} (h : Kept S a w) (o : Obj) : Kept S a (w.alloc o) :=
  h.trans ⟨rfl, rfl, rfl, by simp, fun k hk _ => Below.heap_alloc _ _ _ hk⟩

theorem Kept.setCell {S : Nat → Prop} {a w : World} (h : Kept S a w) {p : Addr} (hp : p.block < w.heap.size → S p.block) (u : Value) : Kept S a (w.setCell p u) :=
  h.trans ⟨rfl, rfl, rfl, by simp [World.setCell], fun k hk hs => Below.heap_setCell _ _ _ _ (fun e => hs (e ▸ hp (e ▸ hk)))⟩

theorem Kept.turned {S : Nat → Prop} {a w w' : World} {bm : Nat} (h : Kept S a w) (ht : w.mapTurned w' bm) (hp : bm < a.heap.size → S bm) : Kept S a w' :=
  ⟨ht.grown.os.trans h.os, ht.grown.tape.trans h.tape, ht.grown.output.trans h.output, Nat.le_trans h.size ht.grown.size,
    fun k hk hs => (ht.grown.block k (Nat.lt_of_lt_of_le hk h.size) (fun e => hs (by cases e; exact hp hk))).trans (h.block k hk hs)⟩

theorem Kept.setNew {S : Nat → Prop} {a w : World} (h : Kept S a w) {p : Addr} (hp : p.block < a.heap.size → S p.block) (u : Value) : Kept S a (w.setCell p u) :=
  ⟨h.os, h.tape, h.output, by simpa [World.setCell] using h.size, fun k hk hs => (Below.heap_setCell w p u k (fun e => hs (by rw [e]; exact hp (by rw [← e]; exact hk)))).trans (h.block k hk hs)⟩

theorem Kept.below {S : Nat → Prop} {a b : World} (h : Kept S a b) {B : Nat} (hB : B ≤ a.heap.size) (hS : ∀ k, k < B → ¬ S k) : Below B a b :=
  ⟨h.os, h.tape, h.output, h.size, fun k hk => h.block k (by omega) (hS k hk)⟩

theorem Kept.at {S : Nat → Prop} {a b : World} (h : Kept S a b) {k : Nat} (hs : ¬ S k) {o : Obj} (ho : a.heap[k]? = some o) : b.heap[k]? = some o :=
  (h.block k ((Array.getElem?_eq_some_iff.1 ho).1) hs).trans ho

theorem Kept.cell {S : Nat → Prop} {a b : World} (h : Kept S a b) {p : Addr} (hs : ¬ S p.block) {v : Value} (ho : a.cell? p = some v) : b.cell? p = some v :=
  (World.cell?_of_block (h.block p.block (World.block_lt_of_cell? a p ho) hs)).trans ho

theorem Kept.drewN {S : Nat → Prop} {a w : World} (h : Kept S a w) (m : Nat) : Kept S a (w.drewN m) := ⟨h.os, h.tape, h.output, h.size, h.block⟩

theorem heap_setCell_cells {w : World} {b off : Nat} {c : Array Value} {t : TypeId} (h : w.heap[b]? = some (.cells c t)) (v : Value) : (w.setCell ⟨b, off, none⟩ v).heap[b]? = some (.cells (c.setIfInBounds off v) t) := by
  simp [World.setCell, Array.getElem?_modify, h]


/-! ### Slices as they lie in memory: (b, o): where the first element lies, where there is one -/

/-- the slice's address, where it has an element -/
def At (oa : Option Addr) (len b o : Nat) : Prop := 0 < len → oa = some ⟨b, o, none⟩

theorem index_run {T E : TypeId} {s : Nat} (hT : Try.prog.underlying T = some (.slice (Try.prog.elem T))) (hs : ∀ w, (sizeOf (Try.prog.elem T)).run Try.prog w = .ok s w)
    {oa : Option Addr} {len b o : Nat} (h : At oa len b o) {k : Nat} (hk : k < len) (cap : Nat) (w : World) :
    (Instr.indexAt T (.slice oa len cap) (.int .i64 k)).run Try.prog w = .ok (.pointer (some ⟨b, o + k * s, none⟩)) w := by
  have e := h (by omega)
  subst e
  rw [run_indexAt_slice _ _ _ _ _ _ _ hT, if_pos (by omega), hs]
  simp only [Result.andThen, Addr.add, Int.toNat_natCast]
  by_cases h0 : k * s = 0
  · rw [if_pos h0, h0]; rfl
  · rw [if_neg h0]

end Go.Proofs.Qxb6601307a
