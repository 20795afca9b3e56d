/-
  THE WALK of zzClonePlan.
-/
import Derived.Test.Qxb6601307aCloneP
set_option linter.unusedVariables false
namespace Go.Proofs.Qxb6601307a
open Go.RowKit Go.Maps

/-- I', in w', is I in new memory (from block B on) -/
structure CloneOf (B : Nat) (w' : World) (I I' : Inp) : Prop where
  inn : I'.In w'
  ml : I'.m.len = I.m.len
  fl : I'.f.len = I.f.len
  sl : I'.s.len = I.s.len
  rl : I'.r.len = I.r.len
  pl : I'.p.len = I.p.len
  ul : I'.u.len = I.u.len
  mx : I'.mx = I.mx
  fx : I'.fx = I.fx
  ms : I'.ms = I.ms
  rs : I'.rs = I.rs
  us : I'.us = I.us
  ps : ∀ k, k < I.p.len → PSame B w' (I.ps k) (I'.ps k)
  mb : 0 < I.m.len → B ≤ I'.m.b
  fb : 0 < I.f.len → B ≤ I'.f.b
  sb : 0 < I.s.len → B ≤ I'.s.b
  rb : 0 < I.r.len → B ≤ I'.r.b
  pb : 0 < I.p.len → B ≤ I'.p.b
  ub : 0 < I.u.len → B ≤ I'.u.b

def Clo13 (w w' : World) (I : Inp) (e : Ending) : Prop := ∃ I' : Inp, e = .returned (.tuple I'.args) ∧ CloneOf w.heap.size w' I I' ∧ New w w'

set_option maxRecDepth 100000 in
set_option maxHeartbeats 2000000 in
theorem plan13 (I : Inp) (w : World) (h : I.In w) (hs : I.Small) : Calls Try.prog 13 I.args w fun e w' => Clo13 w w' I e := by
  have HI : Hid (I.In w) := h
  have HS : Hid I.Small := hs
  clear h hs
  go_enter Try.func13, Try.ntmps13
  go_wp2_with fail
  refine (clone41 _ I.m I.mx HI.out.m HS.out.m).mono ?_
  rintro e w1 ⟨o1, c1, b1, rfl, g1, n1, k1⟩
  have HI1 : Hid (I.In w1) := HI.out.new k1
  have G1 : Hid _ := g1
  have N1 : Hid _ := n1
  have K1 : Hid (New w w1) := k1
  clear g1 n1 k1
  go_wp2_with fail
  refine (clone41 _ I.f I.fx HI1.out.f HS.out.f).mono ?_
  rintro e w2 ⟨o2, c2, b2, rfl, g2, n2, k2⟩
  have HI2 : Hid (I.In w2) := HI1.out.new k2
  have G2 : Hid _ := g2
  have N2 : Hid _ := n2
  have K2 : Hid (New w1 w2) := k2
  clear g2 n2 k2
  go_wp2_with fail
  refine (clone42 _ I.s I.ms HI2.out.s HS.out.s).mono ?_
  rintro e w3 ⟨o3, c3, b3, rfl, g3, n3, k3⟩
  have HI3 : Hid (I.In w3) := HI2.out.new k3
  have G3 : Hid _ := g3
  have N3 : Hid _ := n3
  have K3 : Hid (New w2 w3) := k3
  clear g3 n3 k3
  go_wp2_with fail
  refine (clone43 _ I.r I.rs HI3.out.r HS.out.r).mono ?_
  rintro e w4 ⟨o4, c4, b4, rfl, g4, n4, k4⟩
  have HI4 : Hid (I.In w4) := HI3.out.new k4
  have G4 : Hid _ := g4
  have N4 : Hid _ := n4
  have K4 : Hid (New w3 w4) := k4
  clear g4 n4 k4
  go_wp2_with fail
  refine (clone44 _ I.p I.ps HI4.out.p HS.out.p HS.out.q HS.out.a).mono ?_
  rintro e w5 ⟨o5, c5, b5, ps5, rfl, g5, q5, n5, k5⟩
  have HI5 : Hid (I.In w5) := HI4.out.new k5
  have G5 : Hid _ := g5
  have Q5 : Hid _ := q5
  have N5 : Hid _ := n5
  have K5 : Hid (New w4 w5) := k5
  clear g5 n5 k5 q5
  go_wp2_with fail
  refine (clone45 _ I.u I.us HI5.out.u HS.out.u).mono ?_
  rintro e w6 ⟨o6, c6, b6, rfl, g6, n6, k6⟩
  have G6 : Hid _ := g6
  have N6 : Hid _ := n6
  have K6 : Hid (New w5 w6) := k6
  clear g6 n6 k6
  go_wp2_with fail
  refine bodyPost_ret (v := .tuple #[.slice o1 I.m.len c1, .slice o2 I.f.len c2, .slice o3 I.s.len c3, .slice o4 I.r.len c4, .slice o5 I.p.len c5, .slice o6 I.u.len c6]) (by simp [results, Try.results13, go_sem]) rfl ?_
  have s1 := K1.out.size
  have s2 := K2.out.size
  have s3 := K3.out.size
  have s4 := K4.out.size
  have s5 := K5.out.size
  have t5 : New w5 w6 := K6.out
  have t4 : New w4 w6 := K5.out.trans t5
  have t3 : New w3 w6 := K4.out.trans t4
  have t2 : New w2 w6 := K3.out.trans t3
  have t1 : New w1 w6 := K2.out.trans t2
  refine ⟨⟨⟨o1, I.m.len, c1, b1, 0⟩, ⟨o2, I.f.len, c2, b2, 0⟩, ⟨o3, I.s.len, c3, b3, 0⟩, ⟨o4, I.r.len, c4, b4, 0⟩, ⟨o5, I.p.len, c5, b5, 0⟩, ⟨o6, I.u.len, c6, b6, 0⟩, I.mx, I.fx, I.ms, I.rs, ps5, I.us⟩, rfl, ?_, K1.out.trans t1⟩
  have n1 := N1.out
  have n2 := N2.out
  have n3 := N3.out
  have n4 := N4.out
  have n5 := N5.out
  have n6 := N6.out
  refine ⟨⟨G1.out.kept t1 (fun _ h => h), G2.out.kept t2 (fun _ h => h), G3.out.kept t3 (fun _ h => h), G4.out.kept t4 (fun _ h => h), G5.out.kept t5 (fun _ h => h) (fun _ _ _ h => h) (fun _ _ _ h => h), G6.out⟩, rfl, rfl, rfl, rfl, rfl, rfl, rfl, rfl, rfl, rfl, rfl, ?_, n1, fun hl => ?_, fun hl => ?_, fun hl => ?_, fun hl => ?_, fun hl => ?_⟩
  · intro k hk
    have p := (Q5.out k hk).kept t5 (fun _ h => h) (fun _ h => h)
    exact ⟨p.frm, p.ql, p.al, p.qs, p.an, fun hl => Nat.le_trans (by omega) (p.qb hl), fun hl => Nat.le_trans (by omega) (p.ab hl), p.qq, p.aa⟩
  · exact Nat.le_trans s1 (n2 hl)
  · exact Nat.le_trans (by omega) (n3 hl)
  · exact Nat.le_trans (by omega) (n4 hl)
  · exact Nat.le_trans (by omega) (n5 hl)
  · exact Nat.le_trans (by omega) (n6 hl)

end Go.Proofs.Qxb6601307a
