/-
  THE SIX ARGUMENTS of the plan laws, as they lie in memory. No walk here.
-/
import Derived.Test.Qxb6601307aBase
set_option linter.unusedVariables false
namespace Go.Proofs.Qxb6601307a
open Go.RowKit Go.Maps

/-- a slice: its address, length, capacity; and where its first element lies, where there is one -/
structure Sl where
  oa : Option Addr
  len : Nat
  cap : Nat
  b : Nat
  o : Nat

abbrev Sl.v (x : Sl) : Value := .slice x.oa x.len x.cap

/-- its address is what it says; a nil one is empty -/
structure Sl.Ok (x : Sl) : Prop where
  addr : At x.oa x.len x.b x.o
  nil : x.oa = none → x.len = 0
  cap : x.len ≤ x.cap

theorem sz22 (w : World) : (sizeOf (Try.prog.elem 22)).run Try.prog w = .ok 1 w := by kernel_rfl
theorem sz88 (w : World) : (sizeOf (Try.prog.elem 88)).run Try.prog w = .ok 1 w := by kernel_rfl
theorem sz43 (w : World) : (sizeOf (Try.prog.elem 43)).run Try.prog w = .ok 1 w := by kernel_rfl
theorem sz23 (w : World) : (sizeOf (Try.prog.elem 23)).run Try.prog w = .ok 6 w := by kernel_rfl
theorem sz24 (w : World) : (sizeOf (Try.prog.elem 24)).run Try.prog w = .ok 2 w := by kernel_rfl
theorem sz25 (w : World) : (sizeOf (Try.prog.elem 25)).run Try.prog w = .ok 3 w := by kernel_rfl
theorem sz26 (w : World) : (sizeOf (Try.prog.elem 26)).run Try.prog w = .ok 2 w := by kernel_rfl

theorem Sl.Ok.i22 {x : Sl} (h : x.Ok) {k : Nat} (hk : k < x.len) (w : World) : (Instr.indexAt 22 (.slice x.oa x.len x.cap) (.int .i64 k)).run Try.prog w = .ok (.pointer (some ⟨x.b, x.o + k, none⟩)) w := by
  have := index_run (T := 22) (E := 3) (by kernel_rfl) sz22 h.addr hk x.cap w
  rwa [Nat.mul_one] at this
theorem Sl.Ok.i88 {x : Sl} (h : x.Ok) {k : Nat} (hk : k < x.len) (w : World) : (Instr.indexAt 88 (.slice x.oa x.len x.cap) (.int .i64 k)).run Try.prog w = .ok (.pointer (some ⟨x.b, x.o + k, none⟩)) w := by
  have := index_run (T := 88) (E := 47) (by kernel_rfl) sz88 h.addr hk x.cap w
  rwa [Nat.mul_one] at this
theorem Sl.Ok.i43 {x : Sl} (h : x.Ok) {k : Nat} (hk : k < x.len) (w : World) : (Instr.indexAt 43 (.slice x.oa x.len x.cap) (.int .i64 k)).run Try.prog w = .ok (.pointer (some ⟨x.b, x.o + k, none⟩)) w := by
  have := index_run (T := 43) (E := 9) (by kernel_rfl) sz43 h.addr hk x.cap w
  rwa [Nat.mul_one] at this
theorem Sl.Ok.i23 {x : Sl} (h : x.Ok) {k : Nat} (hk : k < x.len) (w : World) : (Instr.indexAt 23 (.slice x.oa x.len x.cap) (.int .i64 k)).run Try.prog w = .ok (.pointer (some ⟨x.b, x.o + k * 6, none⟩)) w := index_run (T := 23) (E := 76) (by kernel_rfl) sz23 h.addr hk x.cap w
theorem Sl.Ok.i24 {x : Sl} (h : x.Ok) {k : Nat} (hk : k < x.len) (w : World) : (Instr.indexAt 24 (.slice x.oa x.len x.cap) (.int .i64 k)).run Try.prog w = .ok (.pointer (some ⟨x.b, x.o + k * 2, none⟩)) w := index_run (T := 24) (E := 41) (by kernel_rfl) sz24 h.addr hk x.cap w
theorem Sl.Ok.i25 {x : Sl} (h : x.Ok) {k : Nat} (hk : k < x.len) (w : World) : (Instr.indexAt 25 (.slice x.oa x.len x.cap) (.int .i64 k)).run Try.prog w = .ok (.pointer (some ⟨x.b, x.o + k * 3, none⟩)) w := index_run (T := 25) (E := 45) (by kernel_rfl) sz25 h.addr hk x.cap w
theorem Sl.Ok.i26 {x : Sl} (h : x.Ok) {k : Nat} (hk : k < x.len) (w : World) : (Instr.indexAt 26 (.slice x.oa x.len x.cap) (.int .i64 k)).run Try.prog w = .ok (.pointer (some ⟨x.b, x.o + k * 2, none⟩)) w := index_run (T := 26) (E := 73) (by kernel_rfl) sz26 h.addr hk x.cap w

/-! ### What the slices hold -/

/-- integers (ints, IDs) -/
structure IntsAt (w : World) (x : Sl) (xs : Nat → Int) : Prop where
  ok : x.Ok
  wf : ∀ k, k < x.len → (Lit.int .i64 (xs k)).wf = true
  cell : ∀ k, k < x.len → w.cell? ⟨x.b, x.o + k, none⟩ = some (.int .i64 (xs k))

/-- strings -/
structure StrsAt (w : World) (x : Sl) (ss : Nat → ByteArray) : Prop where
  ok : x.Ok
  cell : ∀ k, k < x.len → w.cell? ⟨x.b, x.o + k, none⟩ = some (.string (ss k))
  small : ∀ k, k < x.len → (ss k).size ≤ maxLen

structure Miss where
  id : Int
  obj : ByteArray
  a : Int
  b : Int
  c : Int
  d : Int

structure MissAt (w : World) (x : Sl) (ms : Nat → Miss) : Prop where
  ok : x.Ok
  wf : ∀ k, k < x.len → (Lit.int .i64 (ms k).id).wf = true
  c0 : ∀ k, k < x.len → w.cell? ⟨x.b, x.o + k * 6, none⟩ = some (.int .i64 (ms k).id)
  c1 : ∀ k, k < x.len → w.cell? ⟨x.b, x.o + k * 6 + 1, none⟩ = some (.string (ms k).obj)
  c2 : ∀ k, k < x.len → w.cell? ⟨x.b, x.o + k * 6 + 2, none⟩ = some (.int .u64 (ms k).a)
  c3 : ∀ k, k < x.len → w.cell? ⟨x.b, x.o + k * 6 + 3, none⟩ = some (.int .u64 (ms k).b)
  c4 : ∀ k, k < x.len → w.cell? ⟨x.b, x.o + k * 6 + 4, none⟩ = some (.int .u64 (ms k).c)
  c5 : ∀ k, k < x.len → w.cell? ⟨x.b, x.o + k * 6 + 5, none⟩ = some (.int .u64 (ms k).d)
  small : ∀ k, k < x.len → (ms k).obj.size ≤ maxLen

structure Src where
  obj : ByteArray
  frm : Int

structure SrcAt (w : World) (x : Sl) (rs : Nat → Src) : Prop where
  ok : x.Ok
  wf : ∀ k, k < x.len → (Lit.int .i64 (rs k).frm).wf = true
  c0 : ∀ k, k < x.len → w.cell? ⟨x.b, x.o + k * 2, none⟩ = some (.string (rs k).obj)
  c1 : ∀ k, k < x.len → w.cell? ⟨x.b, x.o + k * 2 + 1, none⟩ = some (.int .i64 (rs k).frm)
  small : ∀ k, k < x.len → (rs k).obj.size ≤ maxLen

structure PullR where
  frm : Int
  q : Sl
  qs : Nat → ByteArray
  a : Sl
  an : Nat → ByteArray

structure PullAt (w : World) (x : Sl) (ps : Nat → PullR) : Prop where
  ok : x.Ok
  wf : ∀ k, k < x.len → (Lit.int .i64 (ps k).frm).wf = true
  c0 : ∀ k, k < x.len → w.cell? ⟨x.b, x.o + k * 3, none⟩ = some (.int .i64 (ps k).frm)
  c1 : ∀ k, k < x.len → w.cell? ⟨x.b, x.o + k * 3 + 1, none⟩ = some (.slice (ps k).q.oa (ps k).q.len (ps k).q.cap)
  c2 : ∀ k, k < x.len → w.cell? ⟨x.b, x.o + k * 3 + 2, none⟩ = some (.slice (ps k).a.oa (ps k).a.len (ps k).a.cap)
  q : ∀ k, k < x.len → StrsAt w (ps k).q (ps k).qs
  a : ∀ k, k < x.len → StrsAt w (ps k).a (ps k).an

structure Uns where
  id : Int
  obj : ByteArray

structure UnsAt (w : World) (x : Sl) (us : Nat → Uns) : Prop where
  ok : x.Ok
  wf : ∀ k, k < x.len → (Lit.int .i64 (us k).id).wf = true
  c0 : ∀ k, k < x.len → w.cell? ⟨x.b, x.o + k * 2, none⟩ = some (.int .i64 (us k).id)
  c1 : ∀ k, k < x.len → w.cell? ⟨x.b, x.o + k * 2 + 1, none⟩ = some (.string (us k).obj)
  small : ∀ k, k < x.len → (us k).obj.size ≤ maxLen

/-- the six slices -/
structure Inp where
  m : Sl
  f : Sl
  s : Sl
  r : Sl
  p : Sl
  u : Sl
  mx : Nat → Int
  fx : Nat → Int
  ms : Nat → Miss
  rs : Nat → Src
  ps : Nat → PullR
  us : Nat → Uns

structure Inp.In (I : Inp) (w : World) : Prop where
  m : IntsAt w I.m I.mx
  f : IntsAt w I.f I.fx
  s : MissAt w I.s I.ms
  r : SrcAt w I.r I.rs
  p : PullAt w I.p I.ps
  u : UnsAt w I.u I.us

/-- their lengths are at most 2^20 -/
structure Inp.Small (I : Inp) : Prop where
  m : I.m.len ≤ 1048576
  f : I.f.len ≤ 1048576
  s : I.s.len ≤ 1048576
  r : I.r.len ≤ 1048576
  p : I.p.len ≤ 1048576
  u : I.u.len ≤ 1048576
  q : ∀ k, k < I.p.len → (I.ps k).q.len ≤ 1048576
  a : ∀ k, k < I.p.len → (I.ps k).a.len ≤ 1048576

abbrev Inp.args (I : Inp) : Array Value := #[.slice I.m.oa I.m.len I.m.cap, .slice I.f.oa I.f.len I.f.cap, .slice I.s.oa I.s.len I.s.cap, .slice I.r.oa I.r.len I.r.cap, .slice I.p.oa I.p.len I.p.cap, .slice I.u.oa I.u.len I.u.cap]

/-- what zzBytes says -/
def ZzPost (w w' : World) (I : Inp) (e : Ending) : Prop := ∃ r, e = .returned (.bool r) ∧ w' = w ∧ (r = true → I.Small)

end Go.Proofs.Qxb6601307a
