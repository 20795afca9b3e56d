/-
  THE SET IN MEMORY: what block it lies in, what it holds; what stays of a world. No walk here.
-/
import Derived.Test.Qxb6602432aRows
import Derived.Maps.OwnSet
import Derived.Lib.Strings
import Derived.WalkKit
import Derived.WalkSpells
import Derived.WalkLawsBesides
set_option linter.unusedVariables false
namespace Go.Proofs.Qxb6602432a
open Go.RowKit Go.Maps

/-! ### What stays of a world -/

/-- w' is w but for the blocks of S, new blocks and draws. -/
structure Kept (S : Nat → Prop) (w w' : World) : Prop where
  os : w'.os = w.os
  tape : w'.tape = w.tape
  output : w'.output = w.output
  size : w.heap.size ≤ w'.heap.size
  block : ∀ k, k < w.heap.size → ¬ S k → w'.heap[k]? = w.heap[k]?

theorem Kept.refl (S : Nat → Prop) (w : World) : Kept S w w := ⟨rfl, rfl, rfl, Nat.le_refl _, fun _ _ _ => rfl⟩

theorem Kept.trans {S : Nat → Prop} {a b c : World} (h : Kept S a b) (k : Kept S b c) : Kept S a c :=
  ⟨k.os.trans h.os, k.tape.trans h.tape, k.output.trans h.output, Nat.le_trans h.size k.size, fun i hi hs => (k.block i (Nat.lt_of_lt_of_le hi h.size) hs).trans (h.block i hi hs)⟩

theorem Kept.mono {S T : Nat → Prop} {a b : World} (h : Kept S a b) (hst : ∀ k, k < a.heap.size → S k → T k) : Kept T a b :=
  ⟨h.os, h.tape, h.output, h.size, fun i hi hs => h.block i hi (fun hk => hs (hst i hi hk))⟩

theorem Kept.drew {S : Nat → Prop} {a w : World} (h : Kept S a w) : Kept S a w.drew := ⟨h.os, h.tape, h.output, h.size, h.block⟩

theorem Kept.alloc {S : Nat → Prop} {a w : World} (h : Kept S a w) (o : Obj) : Kept S a (w.alloc o) :=
  h.trans ⟨rfl, rfl, rfl, by simp, fun k hk _ => Below.heap_alloc _ _ _ hk⟩

theorem Kept.setCell {S : Nat → Prop} {a w : World} (h : Kept S a w) {p : Addr} (hp : p.block < w.heap.size → S p.block) (u : Value) : Kept S a (w.setCell p u) :=
  h.trans ⟨rfl, rfl, rfl, by simp [World.setCell], fun k hk hs => Below.heap_setCell _ _ _ _ (fun e => hs (e ▸ hp (e ▸ hk)))⟩

theorem Kept.turned {S : Nat → Prop} {a w w' : World} {bm : Nat} (h : Kept S a w) (ht : w.mapTurned w' bm) (hp : bm < a.heap.size → S bm) : Kept S a w' :=
  ⟨ht.grown.os.trans h.os, ht.grown.tape.trans h.tape, ht.grown.output.trans h.output, Nat.le_trans h.size ht.grown.size,
    fun k hk hs => (ht.grown.block k (Nat.lt_of_lt_of_le hk h.size) (fun e => hs (by cases e; exact hp hk))).trans (h.block k hk hs)⟩

theorem Kept.setNew {S : Nat → Prop} {a w : World} (h : Kept S a w) {p : Addr} (hp : p.block < a.heap.size → S p.block) (u : Value) : Kept S a (w.setCell p u) :=
  ⟨h.os, h.tape, h.output, by simpa [World.setCell] using h.size, fun k hk hs => (Below.heap_setCell w p u k (fun e => hs (by rw [e]; exact hp (by rw [← e]; exact hk)))).trans (h.block k hk hs)⟩

theorem Kept.below {S : Nat → Prop} {a b : World} (h : Kept S a b) {B : Nat} (hB : B ≤ a.heap.size) (hS : ∀ k, k < B → ¬ S k) : Below B a b :=
  ⟨h.os, h.tape, h.output, h.size, fun k hk => h.block k (by omega) (hS k hk)⟩

theorem Kept.at {S : Nat → Prop} {a b : World} (h : Kept S a b) {k : Nat} (hs : ¬ S k) {o : Obj} (ho : a.heap[k]? = some o) : b.heap[k]? = some o :=
  (h.block k ((Array.getElem?_eq_some_iff.1 ho).1) hs).trans ho

theorem Kept.cell {S : Nat → Prop} {a b : World} (h : Kept S a b) {p : Addr} (hs : ¬ S p.block) {v : Value} (ho : a.cell? p = some v) : b.cell? p = some v :=
  (World.cell?_of_block (h.block p.block (World.block_lt_of_cell? a p ho) hs)).trans ho

/-! ### The set's block -/

/-- The ten cells of a readSet: eight names, their number, the map. -/
def rsCells (few : Nat → ByteArray) (n : Int) (m : Option Nat) : Array Value :=
  #[.string (few 0), .string (few 1), .string (few 2), .string (few 3), .string (few 4), .string (few 5), .string (few 6), .string (few 7), .int .i64 n, .map m]

/-- Block b of w is the set's struct. -/
def RsB (w : World) (b : Nat) (few : Nat → ByteArray) (n : Int) (m : Option Nat) : Prop := w.heap[b]? = some (.cells (rsCells few n m) 45)

theorem RsB.lt {w : World} {b : Nat} {few : Nat → ByteArray} {n : Int} {m : Option Nat} (h : RsB w b few n m) : b < w.heap.size := (Array.getElem?_eq_some_iff.1 h).1

theorem RsB.few {w : World} {b : Nat} {few : Nat → ByteArray} {n : Int} {m : Option Nat} (h : RsB w b few n m) : ∀ k, k < 8 → w.cell? ⟨b, k, none⟩ = some (.string (few k)) := by
  intro k hk
  have : k = 0 ∨ k = 1 ∨ k = 2 ∨ k = 3 ∨ k = 4 ∨ k = 5 ∨ k = 6 ∨ k = 7 := by omega
  unfold RsB at h
  rcases this with rfl | rfl | rfl | rfl | rfl | rfl | rfl | rfl <;> simp [World.cell?, h, rsCells]

theorem RsB.num {w : World} {b : Nat} {few : Nat → ByteArray} {n : Int} {m : Option Nat} (h : RsB w b few n m) : w.cell? ⟨b, 8, none⟩ = some (.int .i64 n) := by
  unfold RsB at h; simp [World.cell?, h, rsCells]

theorem RsB.map {w : World} {b : Nat} {few : Nat → ByteArray} {n : Int} {m : Option Nat} (h : RsB w b few n m) : w.cell? ⟨b, 9, none⟩ = some (.map m) := by
  unfold RsB at h; simp [World.cell?, h, rsCells]

theorem RsB.free {w : World} {b : Nat} {few : Nat → ByteArray} {n : Int} {m : Option Nat} (h : RsB w b few n m) : ∀ k, w.frozen? ⟨b, k, none⟩ = false := by
  intro k
  unfold RsB at h; simp [World.frozen?, h]

end Go.Proofs.Qxb6602432a
