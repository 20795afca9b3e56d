/-
  THE WALK of FnNotRecoveringAsksNothing.
-/
import Derived.Test.Qxb6601307aPulls
import Derived.Test.Qxb6601307aZz37
import Derived.Test.Qxb6601307aBytes
import Derived.Test.Qxb6601307aClonePlan
set_option linter.unusedVariables false
namespace Go.Proofs.Qxb6601307a
open Go.RowKit Go.Maps

theorem lastIdx_congr {fr fr' : Nat → Int} : ∀ (n : Nat) (f : Int), (∀ k, k < n → fr k = fr' k) → lastIdx fr n f = lastIdx fr' n f
  | 0, f, h => rfl
  | n + 1, f, h => by
    unfold lastIdx
    rw [h n (by omega), lastIdx_congr n f (fun k hk => h k (by omega))]

theorem CloneOf.small {B : Nat} {w' : World} {I I' : Inp} (h : CloneOf B w' I I') (hs : I.Small) : I'.Small :=
  ⟨by rw [h.ml]; exact hs.m, by rw [h.fl]; exact hs.f, by rw [h.sl]; exact hs.s, by rw [h.rl]; exact hs.r, by rw [h.pl]; exact hs.p, by rw [h.ul]; exact hs.u,
   fun k hk => by rw [h.pl] at hk; rw [(h.ps k hk).ql]; exact hs.q k hk, fun k hk => by rw [h.pl] at hk; rw [(h.ps k hk).al]; exact hs.a k hk⟩

theorem CloneOf.all {B : Nat} {w' : World} {I I' : Inp} (h : CloneOf B w' I I') (ha : allIn (fun k => (I.ps k).frm) I.p.len I.fx I.f.len = true) : allIn (fun k => (I'.ps k).frm) I'.p.len I'.fx I'.f.len = true := by
  rw [allIn_iff] at ha ⊢
  intro k hk
  rw [h.fl] at hk
  rw [h.pl, h.fx, lastIdx_congr (fr := fun k => (I'.ps k).frm) (fr' := fun k => (I.ps k).frm) I.p.len _ (fun i hi => (h.ps i hi).frm)]
  exact ha k hk

theorem Inp.In.qb {I : Inp} {w : World} (h : I.In w) (j : Nat) (hj : j < I.p.len) (hl : 0 < (I.ps j).q.len) : (I.ps j).q.b < w.heap.size := World.block_lt_of_cell? w _ ((h.p.q j hj).cell 0 hl)

set_option maxRecDepth 100000 in
set_option maxHeartbeats 4000000 in
theorem walk7 (I : Inp) (w : World) (h : I.In w) : Calls Try.prog 7 I.args w fun e w' => e = .returned (.bool true) ∧ Below w.heap.size w w' := by
  have HI : Hid (I.In w) := h
  clear h
  go_enter Try.func7, Try.ntmps7
  go_wp2_with fail
  refine (zz37 I w HI.out).mono ?_
  rintro e w1 ⟨r, rfl, rfl, hr⟩
  cases r with
  | false =>
    clear hr
    go_wp2_with fail
    go_ret
    exact ⟨rfl, Below.refl _ _⟩
  | true =>
    have HS : Hid I.Small := hr rfl
    clear hr
    go_wp2_with fail
    refine (plan9 I w1 HI.out HS.out).mono ?_
    rintro e w2 ⟨z, rfl, hz0, hz1, rfl⟩
    by_cases hz : z > 1048576
    · go_wp2_with fail
      go_ret
      exact ⟨rfl, Below.refl _ _⟩
    · by_cases hm0 : I.m.len = 0
      · have hm0' : (I.m.len : Int) = 0 := by omega
        go_wp2_with fail
        go_ret
        exact ⟨rfl, Below.refl _ _⟩
      · have hm0' : ¬ (I.m.len : Int) = 0 := by omega
        go_wp2_with fail
        refine (idx12 w2 I.p I.ps HI.out.p HS.out.p).mono ?_
        rintro e w3 ⟨bm, rfl, hown, hge, hk3⟩
        have HK3 : Hid (New w2 w3) := hk3
        have HI3 : Hid (I.In w3) := HI.out.new hk3
        have HO3 : Hid (OwnsIdx w3 bm I.p.len (fun k => (I.ps k).frm)) := hown
        clear hown hge hk3
        go_wp2_with fail
        refine (all11 w3 I.f I.fx HI3.out.f HS.out.f bm I.p.len (fun k => (I.ps k).frm) HO3.out).mono ?_
        rintro e w4 ⟨rfl, rfl⟩
        cases hall : allIn (fun k => (I.ps k).frm) I.p.len I.fx I.f.len with
        | false =>
          go_wp2_with fail
          go_ret
          exact ⟨rfl, HK3.out.below (Nat.le_refl _) (fun _ _ h => h)⟩
        | true =>
          have HAL : Hid (allIn (fun k => (I.ps k).frm) I.p.len I.fx I.f.len = true) := hall
          clear hall
          go_wp2_with fail
          refine (plan13 I w4 HI3.out HS.out).mono ?_
          rintro e w5 ⟨I', rfl, hcl, hk5⟩
          have HCL : Hid (CloneOf w4.heap.size w5 I I') := hcl
          have HK5 : Hid (New w4 w5) := hk5
          clear hcl hk5
          go_wp2_with fail
          refine (build14 I' w5 HCL.out.inn (HCL.out.small HS.out)).mono ?_
          rintro e w6 ⟨bp, b1, b2, b3, b5, gm, gf, hi, bq, ba, rfl, hB, hbp, hgm, hgf, hk6⟩
          have HB : Hid (Built w6 I' bp b1 b2 b3 b5 gm gf hi bq ba) := hB
          have HK6 : Hid (New w5 w6) := hk6
          have HI6 : Hid (I'.In w6) := HCL.out.inn.new hk6
          have hhi : hi ≤ w6.heap.size := by have := hB.o1; have := hB.o2; have := hB.o3; have := hB.plan.lt; omega
          have hml : I'.m.len = I.m.len := HCL.out.ml
          have hfl : I'.f.len = I.f.len := HCL.out.fl
          have hsm := HS.out.m
          have hsf := HS.out.f
          clear hB hk6
          go_wp2_with fail
          refine (rec38 w6 I' HB.out hhi (by omega) (by omega)).mono ?_
          rintro e w7 ⟨r, rfl, hk7, hr⟩
          have HK7 : Hid (New w6 w7) := hk7
          have HR : Hid (r = false → I'.r.len = 0) := hr
          clear hk7 hr
          cases r with
          | true =>
            go_wp2_with fail
            go_ret
            exact ⟨rfl, (((HK3.out.trans HK5.out).trans HK6.out).trans HK7.out).below (Nat.le_refl _) (fun _ _ h => h)⟩
          | false =>
            have HB7 : Hid (Built w7 I' bp b1 b2 b3 b5 gm gf hi bq ba) := HB.out.kept HK7.out
            have HI7 : Hid (I'.In w7) := HI6.out.new HK7.out
            have HR0 : Hid (I'.r.len = 0) := HR.out rfl
            have heq := eqNil 37 Try.underlying37
            clear HR
            go_wp2_with fail
            refine (next15s w7 I' HB7.out hgf (fun j hj => HI7.out.p.q j hj) (fun j hj hl => Nat.lt_of_lt_of_le (HCL.out.inn.qb j hj hl) hbp) HR0.out (HCL.out.all HAL.out) (by omega)).mono ?_
            rintro e w8 ⟨rfl, hk8⟩
            have HK8 : Hid (After bp w7 w8) := hk8
            clear hk8
            go_wp2_with fail
            go_ret
            refine ⟨rfl, ?_⟩
            have n7 := ((HK3.out.trans HK5.out).trans HK6.out).trans HK7.out
            have s0 := HK3.out.size
            have s1 := HK5.out.size
            exact (n7.below (Nat.le_refl _) (fun _ _ h => h)).trans (HK8.out.below (by have := n7.size; omega) (fun b hb h => by have h' : bp < b := h; omega))

end Go.Proofs.Qxb6601307a
