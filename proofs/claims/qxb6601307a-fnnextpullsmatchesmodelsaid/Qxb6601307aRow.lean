/-
  A NEW ROW OF CELLS, filled from its head on.
-/
import Derived.Test.Qxb6601307aInp
set_option linter.unusedVariables false
namespace Go.Proofs.Qxb6601307a
open Go.RowKit Go.Maps

/-- block g of w is a row of N cells (element type T) of which the first K are those of f -/
def Row (w : World) (g T N K : Nat) (f : Nat → Value) : Prop := ∃ cur : Array Value, w.heap[g]? = some (.cells cur T) ∧ cur.size = N ∧ ∀ i, i < K → cur[i]? = some (f i)

theorem Row.set {w : World} {g T N K : Nat} {f : Nat → Value} (h : Row w g T N K f) (hk : K < N) {v : Value} (hv : v = f K) : Row (w.setCell ⟨g, K, none⟩ v) g T N (K + 1) f := by
  obtain ⟨cur, hh, hs, hc⟩ := h
  refine ⟨_, heap_setCell_cells hh _, by simpa using hs, ?_⟩
  intro i hi
  rw [Array.getElem?_setIfInBounds]
  split
  · rename_i e; subst e; rw [if_pos (by omega), hv]
  · exact hc i (by omega)

theorem Row.cell {w : World} {g T N K : Nat} {f : Nat → Value} (h : Row w g T N K f) {i : Nat} (hi : i < N) : ∃ v, w.cell? ⟨g, i, none⟩ = some v := by
  obtain ⟨cur, hh, hs, hc⟩ := h
  exact ⟨cur[i]'(by omega), by simp [World.cell?, hh, Array.getElem?_eq_getElem (show i < cur.size by omega)]⟩

theorem Row.get {w : World} {g T N K : Nat} {f : Nat → Value} (h : Row w g T N K f) {i : Nat} (hi : i < K) : w.cell? ⟨g, i, none⟩ = some (f i) := by
  obtain ⟨cur, hh, hs, hc⟩ := h
  simp [World.cell?, hh, hc i hi]

theorem Row.free {w : World} {g T N K : Nat} {f : Nat → Value} (h : Row w g T N K f) (i : Nat) : w.frozen? ⟨g, i, none⟩ = false := by
  obtain ⟨cur, hh, hs, hc⟩ := h
  simp [World.frozen?, hh]

theorem Row.lt {w : World} {g T N K : Nat} {f : Nat → Value} (h : Row w g T N K f) : g < w.heap.size := by
  obtain ⟨cur, hh, _⟩ := h
  exact (Array.getElem?_eq_some_iff.1 hh).1

theorem Row.kept {S : Nat → Prop} {w w' : World} {g T N K : Nat} {f : Nat → Value} (h : Row w g T N K f) (hk : Kept S w w') (hs : ¬ S g) : Row w' g T N K f := by
  obtain ⟨cur, hh, r⟩ := h
  exact ⟨cur, hk.at hs hh, r⟩

theorem Row.made (w : World) (T N : Nat) (cur : Array Value) (hs : cur.size = N) (f : Nat → Value) : Row (w.alloc (.cells cur T)) w.heap.size T N 0 f :=
  ⟨_, (MapKept.heap_alloc w _).1, hs, fun i hi => absurd hi (Nat.not_lt_zero _)⟩

theorem Row.congr {w : World} {g T N K : Nat} {f f' : Nat → Value} (h : Row w g T N K f) (he : ∀ i, i < K → f i = f' i) : Row w g T N K f' := by
  obtain ⟨cur, hh, hs, hc⟩ := h
  exact ⟨cur, hh, hs, fun i hi => by rw [← he i hi]; exact hc i hi⟩

/-- 'make([]E, n)': a new row of n * s cells -/
theorem make_run {T E : TypeId} {z : Value} {s bytes : Nat} (hT : Try.prog.underlying T = some (.slice E)) (hinfo : (Try.prog.info? E).map (fun i => (i.zero, i.size, i.bytes)) = some (some z, s, bytes)) (hb : bytes ≤ 64) (w : World) (n : Nat) (hn : n ≤ 1048576) :
    (Instr.makeSlice T (.int .i64 n) (.int .i64 n)).run Try.prog w = .ok (.slice (some ⟨w.heap.size, 0, none⟩) n n) (w.alloc (.cells (madeCells z.cells (n * s)) E)) := by
  obtain ⟨i, hi, hz⟩ := Option.map_eq_some_iff.1 hinfo
  simp only [Prod.mk.injEq] at hz
  obtain ⟨hz1, hz2, hz3⟩ := hz
  have hbb : (i.bytes : Int) * (n : Int) ≤ 281474976710656 := by
    have h1 : i.bytes * n ≤ 64 * 1048576 := Nat.mul_le_mul (by omega) hn
    have h2 : ((i.bytes * n : Nat) : Int) ≤ 281474976710656 := by omega
    rwa [Int.natCast_mul] at h2
  have := run_make (P := Try.prog) w T E i z hT hi hz1 .i64 .i64 n n (by omega) (by omega) hbb (by omega)
  rw [this, hz2]
  simp only [Int.toNat_natCast]

theorem make22 (w : World) (n : Nat) (hn : n ≤ 1048576) : (Instr.makeSlice 22 (.int .i64 n) (.int .i64 n)).run Try.prog w = .ok (.slice (some ⟨w.heap.size, 0, none⟩) n n) (w.alloc (.cells (madeCells (Value.int .i64 0).cells (n * 1)) 3)) := make_run Try.underlying22 (by kernel_rfl) (bytes := 8) (by omega) w n hn
theorem make88 (w : World) (n : Nat) (hn : n ≤ 1048576) : (Instr.makeSlice 88 (.int .i64 n) (.int .i64 n)).run Try.prog w = .ok (.slice (some ⟨w.heap.size, 0, none⟩) n n) (w.alloc (.cells (madeCells (Value.int .i64 0).cells (n * 1)) 47)) := make_run Try.underlying88 (by kernel_rfl) (bytes := 8) (by omega) w n hn
theorem make43 (w : World) (n : Nat) (hn : n ≤ 1048576) : (Instr.makeSlice 43 (.int .i64 n) (.int .i64 n)).run Try.prog w = .ok (.slice (some ⟨w.heap.size, 0, none⟩) n n) (w.alloc (.cells (madeCells (Value.string ByteArray.empty).cells (n * 1)) 9)) := make_run Try.underlying43 (by kernel_rfl) (bytes := 16) (by omega) w n hn

/-- the slice over a new row -/
abbrev newSl (g len : Nat) : Sl := ⟨some ⟨g, 0, none⟩, len, len, g, 0⟩

theorem newSl_ok (g len : Nat) : (newSl g len).Ok := ⟨fun _ => rfl, fun h => (by cases h), Nat.le_refl _⟩

/-- the nil slice -/
abbrev nilSl : Sl := ⟨none, 0, 0, 0, 0⟩

theorem nilSl_ok : nilSl.Ok := ⟨fun h => absurd h (Nat.lt_irrefl _), fun _ => rfl, Nat.le_refl _⟩

theorem eqNil (T : TypeId) {E : TypeId} (hT : Try.prog.underlying T = some (.slice E)) (w : World) (oa : Option Addr) (l c : Nat) : (binOp .eql T (.slice oa l c) (.slice none 0 0)).run Try.prog w = .ok (.bool oa.isNone) w := Lib.run_eql_slice_nil (P := Try.prog) w T E oa l c 0 0 hT

/-- new memory alone: every old block stays -/
abbrev New (w w' : World) : Prop := Kept (fun _ => False) w w'

/-! ### Facts carried on -/
theorem IntsAt.kept {S : Nat → Prop} {w w' : World} {x : Sl} {xs : Nat → Int} (h : IntsAt w x xs) (hk : Kept S w w') (hs : 0 < x.len → ¬ S x.b) : IntsAt w' x xs :=
  ⟨h.ok, h.wf, fun k hl => hk.cell (p := ⟨x.b, x.o + k, none⟩) (hs (by omega)) (h.cell k hl)⟩
theorem StrsAt.kept {S : Nat → Prop} {w w' : World} {x : Sl} {xs : Nat → ByteArray} (h : StrsAt w x xs) (hk : Kept S w w') (hs : 0 < x.len → ¬ S x.b) : StrsAt w' x xs :=
  ⟨h.ok, fun k hl => hk.cell (p := ⟨x.b, x.o + k, none⟩) (hs (by omega)) (h.cell k hl), h.small⟩
theorem MissAt.kept {S : Nat → Prop} {w w' : World} {x : Sl} {xs : Nat → Miss} (h : MissAt w x xs) (hk : Kept S w w') (hs : 0 < x.len → ¬ S x.b) : MissAt w' x xs :=
  ⟨h.ok, h.wf, fun k hl => hk.cell (p := ⟨x.b, x.o + k * 6, none⟩) (hs (by omega)) (h.c0 k hl), fun k hl => hk.cell (p := ⟨x.b, x.o + k * 6 + 1, none⟩) (hs (by omega)) (h.c1 k hl),
    fun k hl => hk.cell (p := ⟨x.b, x.o + k * 6 + 2, none⟩) (hs (by omega)) (h.c2 k hl), fun k hl => hk.cell (p := ⟨x.b, x.o + k * 6 + 3, none⟩) (hs (by omega)) (h.c3 k hl),
    fun k hl => hk.cell (p := ⟨x.b, x.o + k * 6 + 4, none⟩) (hs (by omega)) (h.c4 k hl), fun k hl => hk.cell (p := ⟨x.b, x.o + k * 6 + 5, none⟩) (hs (by omega)) (h.c5 k hl), h.small⟩
theorem SrcAt.kept {S : Nat → Prop} {w w' : World} {x : Sl} {xs : Nat → Src} (h : SrcAt w x xs) (hk : Kept S w w') (hs : 0 < x.len → ¬ S x.b) : SrcAt w' x xs :=
  ⟨h.ok, h.wf, fun k hl => hk.cell (p := ⟨x.b, x.o + k * 2, none⟩) (hs (by omega)) (h.c0 k hl), fun k hl => hk.cell (p := ⟨x.b, x.o + k * 2 + 1, none⟩) (hs (by omega)) (h.c1 k hl), h.small⟩
theorem UnsAt.kept {S : Nat → Prop} {w w' : World} {x : Sl} {xs : Nat → Uns} (h : UnsAt w x xs) (hk : Kept S w w') (hs : 0 < x.len → ¬ S x.b) : UnsAt w' x xs :=
  ⟨h.ok, h.wf, fun k hl => hk.cell (p := ⟨x.b, x.o + k * 2, none⟩) (hs (by omega)) (h.c0 k hl), fun k hl => hk.cell (p := ⟨x.b, x.o + k * 2 + 1, none⟩) (hs (by omega)) (h.c1 k hl), h.small⟩
theorem PullAt.kept {S : Nat → Prop} {w w' : World} {x : Sl} {xs : Nat → PullR} (h : PullAt w x xs) (hk : Kept S w w') (hs : 0 < x.len → ¬ S x.b) (hq : ∀ k, k < x.len → 0 < (xs k).q.len → ¬ S (xs k).q.b) (ha : ∀ k, k < x.len → 0 < (xs k).a.len → ¬ S (xs k).a.b) : PullAt w' x xs :=
  ⟨h.ok, h.wf, fun k hl => hk.cell (p := ⟨x.b, x.o + k * 3, none⟩) (hs (by omega)) (h.c0 k hl), fun k hl => hk.cell (p := ⟨x.b, x.o + k * 3 + 1, none⟩) (hs (by omega)) (h.c1 k hl),
    fun k hl => hk.cell (p := ⟨x.b, x.o + k * 3 + 2, none⟩) (hs (by omega)) (h.c2 k hl), fun k hl => (h.q k hl).kept hk (hq k hl), fun k hl => (h.a k hl).kept hk (ha k hl)⟩

theorem Inp.In.new {I : Inp} {w w' : World} (h : I.In w) (hk : New w w') : I.In w' :=
  ⟨h.m.kept hk (fun _ h => h), h.f.kept hk (fun _ h => h), h.s.kept hk (fun _ h => h), h.r.kept hk (fun _ h => h), h.p.kept hk (fun _ h => h) (fun _ _ _ h => h) (fun _ _ _ h => h), h.u.kept hk (fun _ h => h)⟩

end Go.Proofs.Qxb6601307a
