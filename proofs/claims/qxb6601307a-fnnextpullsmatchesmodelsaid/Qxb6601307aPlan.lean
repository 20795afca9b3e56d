/-
  THE WALKS of ZZNewPlan, ZZSetPulls, ZZSetBackfill.
-/
import Derived.Test.Qxb6601307aMaps
set_option linter.unusedVariables false
namespace Go.Proofs.Qxb6601307a
open Go.RowKit Go.Maps

/-- the six cells of a Plan -/
def planCells (m f : Sl) (b1 b2 b3 b5 : Nat) : Array Value := #[.slice m.oa m.len m.cap, .map (some b1), .map (some b2), .map (some b3), .slice f.oa f.len f.cap, .map (some b5)]

/-- block bp of w is the Plan -/
def PlanB (w : World) (bp : Nat) (m f : Sl) (b1 b2 b3 b5 : Nat) : Prop := w.heap[bp]? = some (.cells (planCells m f b1 b2 b3 b5) 103)

theorem PlanB.lt {w : World} {bp : Nat} {m f : Sl} {b1 b2 b3 b5 : Nat} (h : PlanB w bp m f b1 b2 b3 b5) : bp < w.heap.size := (Array.getElem?_eq_some_iff.1 h).1
theorem PlanB.kept {S : Nat → Prop} {w w' : World} {bp : Nat} {m f : Sl} {b1 b2 b3 b5 : Nat} (h : PlanB w bp m f b1 b2 b3 b5) (hk : Kept S w w') (hs : ¬ S bp) : PlanB w' bp m f b1 b2 b3 b5 := hk.at hs h
theorem PlanB.c0 {w : World} {bp : Nat} {m f : Sl} {b1 b2 b3 b5 : Nat} (h : PlanB w bp m f b1 b2 b3 b5) : w.cell? ⟨bp, 0, none⟩ = some (.slice m.oa m.len m.cap) := by unfold PlanB at h; simp [World.cell?, h, planCells]
theorem PlanB.c1 {w : World} {bp : Nat} {m f : Sl} {b1 b2 b3 b5 : Nat} (h : PlanB w bp m f b1 b2 b3 b5) : w.cell? ⟨bp, 1, none⟩ = some (.map (some b1)) := by unfold PlanB at h; simp [World.cell?, h, planCells]
theorem PlanB.c2 {w : World} {bp : Nat} {m f : Sl} {b1 b2 b3 b5 : Nat} (h : PlanB w bp m f b1 b2 b3 b5) : w.cell? ⟨bp, 2, none⟩ = some (.map (some b2)) := by unfold PlanB at h; simp [World.cell?, h, planCells]
theorem PlanB.c3 {w : World} {bp : Nat} {m f : Sl} {b1 b2 b3 b5 : Nat} (h : PlanB w bp m f b1 b2 b3 b5) : w.cell? ⟨bp, 3, none⟩ = some (.map (some b3)) := by unfold PlanB at h; simp [World.cell?, h, planCells]
theorem PlanB.c4 {w : World} {bp : Nat} {m f : Sl} {b1 b2 b3 b5 : Nat} (h : PlanB w bp m f b1 b2 b3 b5) : w.cell? ⟨bp, 4, none⟩ = some (.slice f.oa f.len f.cap) := by unfold PlanB at h; simp [World.cell?, h, planCells]
theorem PlanB.c5 {w : World} {bp : Nat} {m f : Sl} {b1 b2 b3 b5 : Nat} (h : PlanB w bp m f b1 b2 b3 b5) : w.cell? ⟨bp, 5, none⟩ = some (.map (some b5)) := by unfold PlanB at h; simp [World.cell?, h, planCells]

/-- what ZZNewPlan hands back -/
def NewPlan (w w' : World) (m f : Sl) (b1 b2 : Nat) (e : Ending) : Prop :=
  ∃ bp b3 b5, e = .returned (.pointer (some ⟨bp, 0, none⟩)) ∧ PlanB w' bp m f b1 b2 b3 b5 ∧ w'.ownsMap Try.prog 47 ptrElem b3 0 (.map [] : DataW Unit) ∧ w'.ownsMap Try.prog 47 anyElem b5 0 (.map [] : DataW Unit) ∧ w.heap.size ≤ b3 ∧ b3 < b5 ∧ b5 < bp ∧ New w w'

set_option maxHeartbeats 400000 in
theorem new46 (w : World) (m f : Sl) (b1 b2 : Nat) : Calls Try.prog 46 #[.slice m.oa m.len m.cap, .map (some b1), .map (some b2), .slice f.oa f.len f.cap] w fun e w' => NewPlan w w' m f b1 b2 e := by
  have hmm := @run_makeMap Try.prog
  go_enter Try.func46, Try.ntmps46
  go_wp2
  go_ret
  have e1 : (w.alloc (.map #[] 0)).heap.size = w.heap.size + 1 := by simp
  have e2 : ((w.alloc (.map #[] 0)).alloc (.map #[] 0)).heap.size = w.heap.size + 1 + 1 := by simp
  have o3 : (w.alloc (.map #[] 0)).ownsMap Try.prog 47 ptrElem w.heap.size 0 (.map [] : DataW Unit) := World.ownsMap_made _ _ _ _
  have o5 : ((w.alloc (.map #[] 0)).alloc (.map #[] 0)).ownsMap Try.prog 47 anyElem (w.alloc (.map #[] 0)).heap.size 0 (.map [] : DataW Unit) := World.ownsMap_made _ _ _ _
  rw [e1] at o5
  refine ⟨w.heap.size + 1 + 1, w.heap.size, w.heap.size + 1, rfl, ?_, (o3.alloc _).alloc _, o5.alloc _, Nat.le_refl _, by omega, by omega, (((Kept.refl _ _).alloc _).alloc _).alloc _⟩
  unfold PlanB
  have := (MapKept.heap_alloc ((w.alloc (.map #[] 0)).alloc (.map #[] 0)) (.cells (planCells m f b1 b2 w.heap.size (w.heap.size + 1)) 103)).1
  rw [e2] at this
  exact this

/-- block b of w is a daemon's pulls -/
def PullB (w : World) (b : Nat) (q : Sl) (ba : Nat) : Prop := w.heap[b]? = some (.cells #[.slice q.oa q.len q.cap, .map (some ba)] 106)

theorem PullB.lt {w : World} {b : Nat} {q : Sl} {ba : Nat} (h : PullB w b q ba) : b < w.heap.size := (Array.getElem?_eq_some_iff.1 h).1
theorem PullB.kept {S : Nat → Prop} {w w' : World} {b : Nat} {q : Sl} {ba : Nat} (h : PullB w b q ba) (hk : Kept S w w') (hs : ¬ S b) : PullB w' b q ba := hk.at hs h
theorem PullB.c0 {w : World} {b : Nat} {q : Sl} {ba : Nat} (h : PullB w b q ba) : w.cell? ⟨b, 0, none⟩ = some (.slice q.oa q.len q.cap) := by unfold PullB at h; simp [World.cell?, h]
theorem PullB.c1 {w : World} {b : Nat} {q : Sl} {ba : Nat} (h : PullB w b q ba) : w.cell? ⟨b, 1, none⟩ = some (.map (some ba)) := by unfold PullB at h; simp [World.cell?, h]
theorem PullB.free {w : World} {b : Nat} {q : Sl} {ba : Nat} (h : PullB w b q ba) (i : Nat) : w.frozen? ⟨b, i, none⟩ = false := by unfold PullB at h; simp [World.frozen?, h]

set_option maxHeartbeats 400000 in
theorem setp47 (w : World) (bp b3 k : Nat) (D : DataW Unit) (f : Int) (q : Sl) (ba : Nat) (hc : w.cell? ⟨bp, 3, none⟩ = some (.map (some b3))) (ho : w.ownsMap Try.prog 47 ptrElem b3 k D) (hk : k < maxLen) (hf : (Lit.int .i64 f).wf = true) :
    Calls Try.prog 47 #[.pointer (some ⟨bp, 0, none⟩), .int .i64 f, .slice q.oa q.len q.cap, .map (some ba)] w fun e w' => e = .returned (.tuple #[]) ∧ PullB w' w.heap.size q ba ∧ w'.ownsMap Try.prog 47 ptrElem b3 (k + 1) (D.put (.int .i64 f) (.lit (.int .i64 (w.heap.size : Int)))) ∧ Kept (· = b3) w w' := by
  have HO : Hid (w.ownsMap Try.prog 47 ptrElem b3 k D) := ho
  have hlt := World.block_lt_of_cell? w _ hc
  have hlt' : bp < w.heap.size := hlt
  clear ho hlt
  go_enter Try.func47, Try.ntmps47
  go_wp2_with (at_mapUpdate; refine wpList_mapUpdate_in _ rfl _ _ _ 100 rfl 47 104 law47 Try.underlying100 _ b3 k D rfl (HO.out.alloc _) hk _ _ _ rfl rfl (key47 hf) (.lit (.int .i64 (w.heap.size : Int))) [] rfl ?_; intro w1 hown1 hturn1)
  go_end0
  have ka : Kept (· = b3) w (w.alloc (.cells #[.slice q.oa q.len q.cap, .map (some ba)] 106)) := (Kept.refl _ _).alloc _
  have pb : PullB (w.alloc (.cells #[.slice q.oa q.len q.cap, .map (some ba)] 106)) w.heap.size q ba := (MapKept.heap_alloc w _).1
  have hb3 := HO.out.lt
  exact ⟨rfl, pb.kept ((Kept.refl (· = b3) _).turned hturn1 (fun _ => rfl)) (fun h => by omega), hown1, ka.turned hturn1 (fun _ => rfl)⟩

set_option maxHeartbeats 400000 in
theorem setb48 (w : World) (bp b5 k : Nat) (D : DataW Unit) (f : Int) (bu : Nat) (hc : w.cell? ⟨bp, 5, none⟩ = some (.map (some b5))) (ho : w.ownsMap Try.prog 47 anyElem b5 k D) (hk : k < maxLen) (hf : (Lit.int .i64 f).wf = true) :
    Calls Try.prog 48 #[.pointer (some ⟨bp, 0, none⟩), .int .i64 f, .map (some bu)] w fun e w' => e = .returned (.tuple #[]) ∧ w'.ownsMap Try.prog 47 anyElem b5 (k + 1) (D.put (.int .i64 f) .nil) ∧ Kept (· = b5) w w' := by
  have HO : Hid (w.ownsMap Try.prog 47 anyElem b5 k D) := ho
  have hlt := World.block_lt_of_cell? w _ hc
  have hlt' : bp < w.heap.size := hlt
  have hmm := @run_makeMap Try.prog
  clear ho hlt
  go_enter Try.func48, Try.ntmps48
  go_wp2_with (at_mapUpdate; refine wpList_mapUpdate_in _ rfl _ _ _ 101 rfl 47 107 law47 Try.underlying101 _ b5 k D rfl ((HO.out.alloc _).alloc _) hk _ _ _ rfl rfl (key47 hf) .nil [] rfl ?_; intro w1 hown1 hturn1)
  go_end0
  exact ⟨rfl, hown1, (((Kept.refl (· = b5) w).alloc _).alloc _).turned hturn1 (fun _ => rfl)⟩

end Go.Proofs.Qxb6601307a
