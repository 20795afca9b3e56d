/-
  THE WALK of FnNextPullsMatchesModel.
-/
import Derived.Test.Qxb6601307aEnv
import Derived.Test.Qxb6601307aZz8
import Derived.Test.Qxb6601307aNotRec
import Derived.Deep.CutRange
set_option linter.unusedVariables false
namespace Go.Proofs.Qxb6601307a
open Go.RowKit Go.Maps

theorem incr {n : Nat} {fx : Nat → Int} (h : ∀ i, i + 1 < n → fx i < fx (i + 1)) : ∀ (d i : Nat), i + d + 1 < n → fx i < fx (i + d + 1)
  | 0, i, hi => h i hi
  | d + 1, i, hi => Int.lt_trans (incr h d i (by omega)) (h (i + d + 1) (by omega))

theorem jok_of {I : Inp} (ha : ∀ i, i + 1 < I.f.len → I.fx i < I.fx (i + 1)) (hall : ∀ k, k < I.f.len → (lastIdx (fun k => (I.ps k).frm) I.p.len (I.fx k)).isSome = true) :
    ∃ jof : Nat → Nat, JOk I jof ∧ (∀ k, k < I.f.len → lastIdx (fun k => (I.ps k).frm) I.p.len (I.fx k) = some (jof k)) := by
  have hl : ∀ k, k < I.f.len → lastIdx (fun k => (I.ps k).frm) I.p.len (I.fx k) = some ((lastIdx (fun k => (I.ps k).frm) I.p.len (I.fx k)).getD 0) := by
    intro k hk
    have := hall k hk
    cases hh : lastIdx (fun k => (I.ps k).frm) I.p.len (I.fx k) with
    | none => rw [hh] at this; cases this
    | some j => rfl
  refine ⟨fun k => (lastIdx (fun k => (I.ps k).frm) I.p.len (I.fx k)).getD 0, ⟨fun i hi => (lastIdx_lt _ _ _ _ (hl i hi)).1, fun i i' hii hi' e => ?_⟩, hl⟩
  have h1 := (lastIdx_lt _ _ _ _ (hl i (by omega))).2
  have h2 := (lastIdx_lt _ _ _ _ (hl i' hi')).2
  have e' : (lastIdx (fun k => (I.ps k).frm) I.p.len (I.fx i)).getD 0 = (lastIdx (fun k => (I.ps k).frm) I.p.len (I.fx i')).getD 0 := e
  rw [e'] at h1
  have h3 : I.fx i = I.fx i' := h1.symm.trans h2
  obtain ⟨d, hd⟩ := Nat.exists_eq_add_of_le (show i + 1 ≤ i' by omega)
  have h4 := incr ha d i (by omega)
  rw [show i + d + 1 = i' by omega] at h4
  omega

theorem Env.few {w : World} {I : Inp} {bp b3 bi B : Nat} {bq ba jof qc : Nat → Nat} {v : Value} (h : Env w I bp b3 bi B bq ba jof qc v) (hj : JOk I jof) (hs : I.Small) : (outL (srcOf I) I.ps jof I.fx qc I.f.len).length ≤ 1048576 * 1048576 := by
  refine Nat.le_trans (outL_le (srcOf I) I.ps jof I.fx qc 1048576 I.f.len (fun i hi => ?_)) (Nat.mul_le_mul_right _ hs.f)
  obtain ⟨q', hq⟩ := h.nx.st (jof i) (hj.lt i hi)
  have := hq.len
  have := hs.q _ (hj.lt i hi)
  omega

theorem lastIdx_hit (fr : Nat → Int) : ∀ (n : Nat) {i : Nat}, i < n → ∃ j, lastIdx fr n (fr i) = some j
  | 0, i, h => absurd h (Nat.not_lt_zero _)
  | n + 1, i, h => by
    unfold lastIdx
    by_cases he : fr n = fr i
    · exact ⟨n, if_pos he⟩
    · rw [if_neg he]
      have : i ≠ n := fun e => he (by rw [e])
      exact lastIdx_hit fr n (by omega)

theorem ownNe' {w : World} {B : Nat} {e : TypeId} {s : Nat} {v : Value} {n : Nat} {xs : List Value} (h : w.ownsRow B e s v n xs) {b : Nat} (hb : b < B) : v.ownBlock = none ∨ v.ownBlock ≠ some b := by
  cases hv : v.ownBlock with
  | none => exact .inl rfl
  | some g =>
    have := (h.lt g hv).1
    exact .inr (fun e => by cases e; omega)

set_option maxRecDepth 100000 in
set_option maxHeartbeats 16000000 in
theorem walk3 (I : Inp) (w : World) (h : I.In w) : Calls Try.prog 3 I.args w fun e w' => e = .returned (.bool true) ∧ Below w.heap.size w w' := by
  have HI : Hid (I.In w) := h
  have hmm := @run_makeMap Try.prog
  clear h
  go_enter Try.func3, Try.ntmps3
  go_wp2_with fail
  refine (zz8 I w HI.out).mono ?_
  rintro e w1 ⟨r, rfl, rfl, hr⟩
  cases r with
  | false =>
    clear hr
    go_wp2_with fail
    go_ret
    exact ⟨rfl, Below.refl _ _⟩
  | true =>
    have HS : Hid I.Small := hr rfl
    clear hr
    go_wp2_with fail
    refine (plan9 I w1 HI.out HS.out).mono ?_
    rintro e w2 ⟨z, rfl, hz0, hz1, rfl⟩
    by_cases hz : z > 1048576
    · go_wp2_with fail
      go_ret
      exact ⟨rfl, Below.refl _ _⟩
    · by_cases hm0 : I.m.len = 0
      · have hm0' : (I.m.len : Int) = 0 := by omega
        go_wp2_with fail
        go_ret
        exact ⟨rfl, Below.refl _ _⟩
      · have hm0' : ¬ (I.m.len : Int) = 0 := by omega
        go_wp2_with fail
        refine (asc10 w2 I.f I.fx HI.out.f HS.out.f).mono ?_
        rintro e w3 ⟨r, rfl, ⟨nq, rfl⟩, ha⟩
        cases r with
        | false =>
          clear ha
          go_wp2_with fail
          go_ret
          exact ⟨rfl, ((Kept.refl (fun _ => False) w2).drewN nq).below (Nat.le_refl _) (fun _ _ h => h)⟩
        | true =>
          have HASC : Hid (∀ i, i + 1 < I.f.len → I.fx i < I.fx (i + 1)) := ha rfl
          have HK2 : Hid (New w2 (w2.drewN nq)) := (Kept.refl _ _).drewN nq
          clear ha
          generalize w2.drewN nq = w3 at HK2 ⊢
          have HI2 : Hid (I.In w3) := HI.out.new HK2.out
          go_wp2_with fail
          refine (idx12 w3 I.p I.ps HI2.out.p HS.out.p).mono ?_
          rintro e w4 ⟨bm, rfl, hown, hge, hk3⟩
          have HK3 : Hid (New w2 w4) := HK2.out.trans hk3
          have HI3 : Hid (I.In w4) := HI.out.new HK3.out
          have HO3 : Hid (OwnsIdx w4 bm I.p.len (fun k => (I.ps k).frm)) := hown
          clear hown hge hk3 HK2 HI2
          go_wp2_with fail
          refine (all11 w4 I.f I.fx HI3.out.f HS.out.f bm I.p.len (fun k => (I.ps k).frm) HO3.out).mono ?_
          rintro e w5 ⟨rfl, rfl⟩
          cases hall : allIn (fun k => (I.ps k).frm) I.p.len I.fx I.f.len with
          | false =>
            go_wp2_with fail
            go_ret
            exact ⟨rfl, HK3.out.below (Nat.le_refl _) (fun _ _ h => h)⟩
          | true =>
            have HAL : Hid (allIn (fun k => (I.ps k).frm) I.p.len I.fx I.f.len = true) := hall
            clear hall
            go_wp2_with fail
            refine (plan13 I w5 HI3.out HS.out).mono ?_
            rintro e w6 ⟨I', rfl, hcl, hk5⟩
            have HK6 : Hid (New w2 w6) := HK3.out.trans hk5
            have HIN : Hid (I'.In w6) := hcl.inn
            have HSM : Hid I'.Small := hcl.small HS.out
            have HAL' : Hid (allIn (fun k => (I'.ps k).frm) I'.p.len I'.fx I'.f.len = true) := hcl.all HAL.out
            have HASC' : Hid (∀ i, i + 1 < I'.f.len → I'.fx i < I'.fx (i + 1)) := by
              rw [hcl.fl, hcl.fx]
              exact HASC.out
            have hm1 : 0 < I'.m.len := by have := hcl.ml; omega
            clear hcl hk5 HK3 HI3 HO3 HAL HASC HI HS hm0 hm0' hz hz0 hz1
            go_wp2_with fail
            refine (idx12 w6 I'.p I'.ps HIN.out.p HSM.out.p).mono ?_
            rintro e w7 ⟨bi, rfl, hown, hge, hk7⟩
            have HK7 : Hid (New w6 w7) := hk7
            have HIN7 : Hid (I'.In w7) := HIN.out.new hk7
            have HOI : Hid (OwnsIdx w7 bi I'.p.len (fun k => (I'.ps k).frm)) := hown
            clear hown hge hk7
            go_wp2_with fail
            refine (build14 I' w7 HIN7.out HSM.out).mono ?_
            rintro e w8 ⟨bp, b1, b2, b3, b5, gm, gf, hi, bq, ba, rfl, hB, hbp, hgm, hgf, hk8⟩
            have HB : Hid (Built w8 I' bp b1 b2 b3 b5 gm gf hi bq ba) := hB
            have HK8 : Hid (New w7 w8) := hk8
            obtain ⟨jof, hjok, hlast⟩ := jok_of HASC'.out ((allIn_iff _ _ _ _).1 HAL'.out)
            have HJ : Hid (JOk I' jof) := hjok
            have HL : Hid (∀ k, k < I'.f.len → lastIdx (fun k => (I'.ps k).frm) I'.p.len (I'.fx k) = some (jof k)) := hlast
            clear hB hk8 hjok hlast HASC' HAL'
            go_wp2_with fail
            refine (next15 w8 I' HB.out hgf hgm hm1 (fun j hj => (HIN7.out.new HK8.out).p.q j hj) (fun j hj hl => Nat.lt_of_lt_of_le (HIN7.out.qb j hj hl) hbp) HJ.out HL.out HSM.out).mono ?_
            rintro e w9 ⟨v, qc, rfl, hN, hk9⟩
            have k79 : New w7 w9 := ((HK8.out.mono (T := fun b => bp < b) (fun _ _ h => h.elim)).trans hk9).mono (fun b hb h => by have h' : bp < b := h; omega)
            have hbl : bp < w8.heap.size := HB.out.plan.lt
            have ho3 := HB.out.o3
            have hov : OwnsIdx w9 bi I'.p.len (fun k => (I'.ps k).frm) := HOI.out.kept k79 (fun h => h)
            have HE : Hid (Env w9 I' bp b3 bi w8.heap.size bq ba jof qc v) := ⟨HIN7.out.new k79, hk9.cell (p := ⟨bp, 3, none⟩) (fun h => absurd h (Nat.lt_irrefl _)) HB.out.plan.c3, HB.out.pull.kept hk9 (fun h => by have h' : bp < b3 := h; omega), hov, hN⟩
            obtain ⟨g, hgv, hgot⟩ := gotAt hN.out hN.nil
            subst hgv
            have HG : Hid (GotAt w9 g (outL (srcOf I') I'.ps jof I'.fx qc I'.f.len) (I'.mx 0)) := hgot
            have HK9 : Hid (New w2 w9) := (HK6.out.trans HK7.out).trans k79
            clear hN hk9 k79 hov hgot HB HK8 HK7 HK6 HIN7 HIN HOI hbp hgm hgf ho3
            have hrl := HSM.out.r
            go_wp2_with fail
            go_loopw [95] (fun t wr => ∃ k : Nat, t = .int .i64 k ∧ k ≤ I'.r.len ∧ OwnsL wr w9.heap.size (fewL (fun i => (I'.rs i).obj) k) ∧ New w9 wr) (fun t _ => I'.r.len - (intOf t).toNat)
            case atStart => exact ⟨0, rfl, Nat.zero_le _, OwnsL.made w9, (Kept.refl _ _).alloc _⟩
            case round =>
              obtain ⟨k, rfl, hk, hO, hK⟩ := hrel
              have HK : Hid (New w9 wr) := hK
              have HO : Hid (OwnsL wr w9.heap.size (fewL (fun i => (I'.rs i).obj) k)) := hO
              clear hO hK
              by_cases hlt : k < I'.r.len
              · have HR : Hid (SrcAt wr I'.r I'.rs) := HE.out.inn.r.kept HK.out (fun _ h => h)
                have hix := HR.out.ok.i24 hlt
                have hcx := HR.out.c0 k hlt
                go_wp2_with (at_mapUpdate; refine wpList_mapUpdate_in _ rfl _ _ _ 39 rfl 9 4 law9 Try.underlying39 _ w9.heap.size (fewL (fun i => (I'.rs i).obj) k).length (setL (fewL (fun i => (I'.rs i).obj) k)) rfl HO.out (by simp [fewL, maxLen]; omega) _ _ _ rfl rfl (key9 (HR.out.small k hlt)) _ [] (plainElem_bool Try.underlying4 true) ?_; intro w10 hown1 hturn1)
                go_roundw
                case rel =>
                  refine ⟨k + 1, by go_num, by omega, ?_, HK.out.turned hturn1 (fun h => absurd h (Nat.lt_irrefl _))⟩
                  rw [fewL_succ]
                  exact OwnsL.stored hown1
                case measure => simp [intOf]; omega
              · have hkl : k = I'.r.len := by omega
                subst hkl
                have HE1 : Hid (Env wr I' bp b3 bi w8.heap.size bq ba jof qc (.slice g.oa g.len g.cap)) := HE.out.new HK.out
                have HG1 : Hid (GotAt wr g (outL (srcOf I') I'.ps jof I'.fx qc I'.f.len) (I'.mx 0)) := HG.out.new HK.out
                have HS1 : Hid (OwnsL wr w9.heap.size (fewL (fun i => (I'.rs i).obj) I'.r.len)) := HO.out
                have HN1 : Hid (New w2 wr) := HK9.out.trans HK.out
                have hbs : w9.heap.size < wr.heap.size := HO.out.lt
                clear HE HG HK HK9 HO
                obtain ⟨w10, rfl⟩ : ∃ w10, w10 = wr := ⟨wr, rfl⟩
                have hfl := HSM.out.f
                go_wp2_with fail
                go_loopw [19, 108] (fun t19 t wr => ∃ k : Nat, t = .int .i64 k ∧ t19 = .int .i64 ((outL (srcOf I') I'.ps jof I'.fx qc k).length : Nat) ∧ k ≤ I'.f.len ∧ OwnsF wr w10.heap.size k I'.fx ∧ New w10 wr) (fun _ t _ => I'.f.len - (intOf t).toNat)
                case atStart => exact ⟨0, rfl, rfl, Nat.zero_le _, OwnsF.made w10 _, (Kept.refl _ _).alloc _⟩
                case round =>
                  obtain ⟨k, rfl, rfl, hk, hF, hK⟩ := hrel
                  have HF : Hid (OwnsF wr w10.heap.size k I'.fx) := hF
                  have HK : Hid (New w10 wr) := hK
                  clear hF hK
                  by_cases hlt : k < I'.f.len
                  · as_aux_lemma =>
                    have HE2 : Hid (Env wr I' bp b3 bi w8.heap.size bq ba jof qc (.slice g.oa g.len g.cap)) := HE1.out.new HK.out
                    have hixf := HE2.out.inn.f.ok.i22 hlt
                    have hcxf := HE2.out.inn.f.cell k hlt
                    have HWF : Hid ((Lit.int .i64 (I'.fx k)).wf = true) := HE2.out.inn.f.wf k hlt
                    obtain ⟨w11, hrunF, hF1, hturnF⟩ := HF.out.store HWF.out (by unfold maxLen; omega)
                    have HF1 : Hid (OwnsF w11 w10.heap.size (k + 1) I'.fx) := hF1
                    have HK11 : Hid (New w10 w11) := HK.out.turned hturnF (fun h => absurd h (Nat.lt_irrefl _))
                    have HE3 : Hid (Env w11 I' bp b3 bi w8.heap.size bq ba jof qc (.slice g.oa g.len g.cap)) := HE1.out.new HK11.out
                    have hget0 := HE3.out.idx.get HWF.out
                    rw [HL.out k hlt] at hget0
                    have hget : (Instr.lookup 31 (.map (some bi)) (.int .i64 (I'.fx k)) false).run Try.prog w11 = .ok (.int .i64 (jof k : Nat)) w11 := hget0
                    have hjl := HJ.out.lt k hlt
                    have hip := HE3.out.inn.p.ok.i25 hjl
                    have hp0 := HE3.out.inn.p.c0 _ hjl
                    have hp1 := HE3.out.inn.p.c1 _ hjl
                    have hp2 := HE3.out.inn.p.c2 _ hjl
                    have HKA : Hid (New w11 (w11.alloc (.cells #[.int .i64 (I'.ps (jof k)).frm, .slice (I'.ps (jof k)).q.oa (I'.ps (jof k)).q.len (I'.ps (jof k)).q.cap, .slice (I'.ps (jof k)).a.oa (I'.ps (jof k)).a.len (I'.ps (jof k)).a.cap] 45))) := (Kept.refl _ _).alloc _
                    clear hF1 hturnF hget0 HE2 HF
                    go_wp2_with fail
                    refine (set16 _ (I'.ps (jof k)).a (I'.ps (jof k)).an ((HE3.out.inn.p.a _ hjl).kept HKA.out (fun _ h => h)) (HSM.out.a _ hjl)).mono ?_
                    rintro e w13 ⟨bA, rfl, hownA, hgeA, hk13⟩
                    have HOA : Hid (OwnsL w13 bA (fewL (I'.ps (jof k)).an (I'.ps (jof k)).a.len)) := hownA
                    have HK13 : Hid (New w11 w13) := HKA.out.trans hk13
                    have row13 : w13.heap[w11.heap.size]? = some (.cells #[.int .i64 (I'.ps (jof k)).frm, .slice (I'.ps (jof k)).q.oa (I'.ps (jof k)).q.len (I'.ps (jof k)).q.cap, .slice (I'.ps (jof k)).a.oa (I'.ps (jof k)).a.len (I'.ps (jof k)).a.cap] 45) := hk13.at (k := w11.heap.size) (fun h => h) (MapKept.heap_alloc w11 _).1
                    have HR13 : Hid (w13.heap[w11.heap.size]? = some (.cells #[.int .i64 (I'.ps (jof k)).frm, .slice (I'.ps (jof k)).q.oa (I'.ps (jof k)).q.len (I'.ps (jof k)).q.cap, .slice (I'.ps (jof k)).a.oa (I'.ps (jof k)).a.len (I'.ps (jof k)).a.cap] 45)) := row13
                    have hlenA := hownA.len
                    have hba : bA < w13.heap.size := hownA.lt
                    have hrb : w11.heap.size < w13.heap.size := (Array.getElem?_eq_some_iff.1 row13).1
                    obtain ⟨z, hz⟩ : ∃ z, z = szL (fewL (I'.ps (jof k)).an (I'.ps (jof k)).a.len) := ⟨_, rfl⟩
                    have HZ : Hid (z = szL (fewL (I'.ps (jof k)).an (I'.ps (jof k)).a.len)) := hz
                    rw [← hz] at hlenA
                    have hq1 : w13.cell? ⟨w11.heap.size, 1, none⟩ = some (.slice (I'.ps (jof k)).q.oa (I'.ps (jof k)).q.len (I'.ps (jof k)).q.cap) := cell_at row13
                    clear hownA hgeA hk13 row13 hz HKA
                    go_upto_if 128 with fail
                    go_cut [24] from 129 to 131 (fun t24 wx => t24 = .int .i64 ((64 - z : Nat) : Int) ∧ wx = w13)
                    case first => as_aux_lemma =>
                      by_cases hz64 : z < 64
                      · have hz64' : (z : Int) < 64 := by omega
                        go_wp2_with fail
                        go_meet
                        case rel => exact ⟨by go_num, rfl⟩
                      · have hz64' : ¬ (z : Int) < 64 := by omega
                        go_wp2_with fail
                        go_meet
                        case rel => exact ⟨by go_num, rfl⟩
                    case rest =>
                      obtain ⟨rfl, rfl⟩ := hcut
                      obtain ⟨w13, rfl⟩ : ∃ x, x = wc := ⟨wc, rfl⟩
                      have HE13 : Hid (Env w13 I' bp b3 bi w8.heap.size bq ba jof qc (.slice g.oa g.len g.cap)) := HE3.out.new HK13.out
                      have HS13 : Hid (OwnsL w13 w9.heap.size (fewL (fun i => (I'.rs i).obj) I'.r.len)) := HS1.out.kept (HK11.out.trans HK13.out) (fun h => h)
                      have hqs : (I'.ps (jof k)).q.len ≤ 1048576 := HSM.out.q _ hjl
                      obtain ⟨i3, hinf, hz0, hz1, hz2⟩ := info3
                      have HINF : Hid (Try.prog.info? 3 = some i3) := hinf
                      have HZ0 : Hid (i3.zero = some (.int .i64 0)) := hz0
                      have HZ1 : Hid (i3.size = 1) := hz1
                      have HZ2 : Hid (i3.bytes = 8) := hz2
                      clear hinf hz0 hz1 hz2 hp0 hp1 hp2 hip hget hrunF hcxf hixf
                      go_wp2_with fail
                      go_loopw [26, 136] (fun t26 t wr => ∃ i : Nat, t = .int .i64 i ∧ i ≤ (I'.ps (jof k)).q.len ∧ wr.ownsRow (w13.heap.size + 1) 3 1 t26 (selL (srcOf I') (I'.ps (jof k)) i).length (posV (selL (srcOf I') (I'.ps (jof k)) i)) ∧ OwnsL wr w13.heap.size (fewL (I'.ps (jof k)).qs i) ∧ New w13 wr) (fun _ t _ => (I'.ps (jof k)).q.len - (intOf t).toNat)
                      case atStart => exact ⟨0, rfl, Nat.zero_le _, World.ownsRow_nil _ _ _ _, OwnsL.made w13, (Kept.refl _ _).alloc _⟩
                      case round =>
                        obtain ⟨i, rfl, hi, hR, hO, hK⟩ := hrel
                        have HR : Hid (wr.ownsRow (w13.heap.size + 1) 3 1 _ (selL (srcOf I') (I'.ps (jof k)) i).length (posV (selL (srcOf I') (I'.ps (jof k)) i))) := hR
                        have HO : Hid (OwnsL wr w13.heap.size (fewL (I'.ps (jof k)).qs i)) := hO
                        have HKW : Hid (New w13 wr) := hK
                        clear hR hO hK
                        by_cases hil : i < (I'.ps (jof k)).q.len
                        · as_aux_lemma =>
                          have HQ : Hid (StrsAt wr (I'.ps (jof k)).q (I'.ps (jof k)).qs) := (HE13.out.inn.p.q _ hjl).kept HKW.out (fun _ h => h)
                          have hiq := HQ.out.ok.i43 hil
                          have hcq := HQ.out.cell i hil
                          have hsm := HQ.out.small i hil
                          have hq1r : wr.cell? ⟨w11.heap.size, 1, none⟩ = some (.slice (I'.ps (jof k)).q.oa (I'.ps (jof k)).q.len (I'.ps (jof k)).q.cap) := HKW.out.cell (p := ⟨w11.heap.size, 1, none⟩) (fun h => h) hq1
                          have l1 := HO.out.look hsm
                          have l2 := (HS13.out.kept HKW.out (fun h => h)).look hsm
                          have l3 := (HOA.out.kept HKW.out (fun h => h)).look hsm
                          rw [inL_fewL] at l1 l2 l3
                          cases b1 : inFew (I'.ps (jof k)).qs i ((I'.ps (jof k)).qs i) with
                          | true =>
                            rw [b1] at l1
                            have HSN : Hid (selAt (srcOf I') (I'.ps (jof k)) i = false) := by
                              show selAt (srcOf I') (I'.ps (jof k)) i = false
                              unfold selAt; rw [b1]; rfl
                            clear b1
                            go_wp2_with (at_mapUpdate; refine wpList_mapUpdate_in _ rfl _ _ _ 39 rfl 9 4 law9 Try.underlying39 _ w13.heap.size (fewL (I'.ps (jof k)).qs i).length (setL (fewL (I'.ps (jof k)).qs i)) rfl HO.out (by simp [fewL, maxLen]; omega) _ _ _ rfl rfl (key9 hsm) _ [] (plainElem_bool Try.underlying4 true) ?_; intro w15 hown15 hturn15)
                            go_roundw
                            case rel =>
                              refine ⟨i + 1, by go_num, by omega, ?_, ?_, HKW.out.turned hturn15 (fun h => absurd h (Nat.lt_irrefl _))⟩
                              · rw [selL_no HSN.out]
                                exact HR.out.kept hturn15.grown (ownNe' HR.out (Nat.lt_succ_self _))
                              · rw [fewL_succ]
                                exact OwnsL.stored hown15
                            case measure => simp [intOf]; omega
                          | false =>
                            rw [b1] at l1
                            cases b2 : inFew (fun i => (I'.rs i).obj) I'.r.len ((I'.ps (jof k)).qs i) with
                            | false =>
                              rw [b2] at l2
                              have HSN : Hid (selAt (srcOf I') (I'.ps (jof k)) i = false) := by
                                show selAt (srcOf I') (I'.ps (jof k)) i = false
                                unfold selAt srcOf; rw [b1, b2]; rfl
                              clear b1 b2
                              go_wp2_with (at_mapUpdate; refine wpList_mapUpdate_in _ rfl _ _ _ 39 rfl 9 4 law9 Try.underlying39 _ w13.heap.size (fewL (I'.ps (jof k)).qs i).length (setL (fewL (I'.ps (jof k)).qs i)) rfl HO.out (by simp [fewL, maxLen]; omega) _ _ _ rfl rfl (key9 hsm) _ [] (plainElem_bool Try.underlying4 true) ?_; intro w15 hown15 hturn15)
                              go_roundw
                              case rel =>
                                refine ⟨i + 1, by go_num, by omega, ?_, ?_, HKW.out.turned hturn15 (fun h => absurd h (Nat.lt_irrefl _))⟩
                                · rw [selL_no HSN.out]
                                  exact HR.out.kept hturn15.grown (ownNe' HR.out (Nat.lt_succ_self _))
                                · rw [fewL_succ]
                                  exact OwnsL.stored hown15
                              case measure => simp [intOf]; omega
                            | true =>
                              rw [b2] at l2
                              cases b3 : inFew (I'.ps (jof k)).an (I'.ps (jof k)).a.len ((I'.ps (jof k)).qs i) with
                              | true =>
                                rw [b3] at l3
                                have HSN : Hid (selAt (srcOf I') (I'.ps (jof k)) i = false) := by
                                  show selAt (srcOf I') (I'.ps (jof k)) i = false
                                  unfold selAt srcOf; rw [b1, b2, b3]; rfl
                                clear b1 b2 b3
                                go_wp2_with (at_mapUpdate; refine wpList_mapUpdate_in _ rfl _ _ _ 39 rfl 9 4 law9 Try.underlying39 _ w13.heap.size (fewL (I'.ps (jof k)).qs i).length (setL (fewL (I'.ps (jof k)).qs i)) rfl HO.out (by simp [fewL, maxLen]; omega) _ _ _ rfl rfl (key9 hsm) _ [] (plainElem_bool Try.underlying4 true) ?_; intro w15 hown15 hturn15)
                                go_roundw
                                case rel =>
                                  refine ⟨i + 1, by go_num, by omega, ?_, ?_, HKW.out.turned hturn15 (fun h => absurd h (Nat.lt_irrefl _))⟩
                                  · rw [selL_no HSN.out]
                                    exact HR.out.kept hturn15.grown (ownNe' HR.out (Nat.lt_succ_self _))
                                  · rw [fewL_succ]
                                    exact OwnsL.stored hown15
                                case measure => simp [intOf]; omega
                              | false =>
                                rw [b3] at l3
                                have HSY : Hid (selAt (srcOf I') (I'.ps (jof k)) i = true) := by
                                  show selAt (srcOf I') (I'.ps (jof k)) i = true
                                  unfold selAt srcOf; rw [b1, b2, b3]; rfl
                                have HLE : Hid ((selL (srcOf I') (I'.ps (jof k)) i).length ≤ 1048576) := Nat.le_trans (selL_le _ _ _) (by omega)
                                have HWS : Hid (w13.heap.size + 1 ≤ wr.heap.size) := HO.out.lt
                                clear b1 b2 b3
                                go_wp2_with (first
                                  | (at_builtin; refine wpList_append_own _ rfl _ _ 22 rfl (w13.heap.size + 1) 3 i3 (.int .i64 0) 1 8 Try.underlying22 HINF.out HZ0.out HZ1.out HZ2.out rfl (by decide) _ _ _ rfl (HR.out.alloc _) ⟨wr.heap.size, 0, none⟩ 1 1 [.int .i64 (i : Int)] rfl rfl (cell_one_new' _ _ _) (by intro u hu; simp at hu; subst hu; rfl) (by have := HLE.out; unfold maxLen; omega) (by have := HLE.out; omega) (by have := HWS.out; simp; omega) ?_; intro v' w14 hown14 hg14 hnil14; have HR14 : Hid (w14.ownsRow (w13.heap.size + 1) 3 1 v' ((selL (srcOf I') (I'.ps (jof k)) i).length + 1) (posV (selL (srcOf I') (I'.ps (jof k)) i) ++ [.int .i64 (i : Int)])) := hown14; have kk14 : Kept (fun b => w13.heap.size + 1 ≤ b) wr w14 := ((Kept.refl (fun b => w13.heap.size + 1 ≤ b) wr).alloc _).grown hg14 (fun j hjj _ => (HR.out.lt j hjj).1); have HO14 : Hid (OwnsL w14 w13.heap.size (fewL (I'.ps (jof k)).qs i)) := HO.out.kept kk14 (fun h => by have h' : w13.heap.size + 1 ≤ w13.heap.size := h; omega); have HK14 : Hid (New w13 w14) := ((HKW.out.mono (T := fun b => w13.heap.size + 1 ≤ b) (fun _ _ h => h.elim)).trans kk14).mono (fun b hb h => by have h' : w13.heap.size + 1 ≤ b := h; omega); clear hown14 hg14 kk14)
                                  | (at_mapUpdate; refine wpList_mapUpdate_in _ rfl _ _ _ 39 rfl 9 4 law9 Try.underlying39 _ w13.heap.size (fewL (I'.ps (jof k)).qs i).length (setL (fewL (I'.ps (jof k)).qs i)) rfl HO14.out (by simp [fewL, maxLen]; omega) _ _ _ rfl rfl (key9 hsm) _ [] (plainElem_bool Try.underlying4 true) ?_; intro w15 hown15 hturn15))
                                go_roundw
                                case rel =>
                                  refine ⟨i + 1, by go_num, by omega, ?_, ?_, HK14.out.turned hturn15 (fun h => absurd h (Nat.lt_irrefl _))⟩
                                  · rw [selL_yes HSY.out, List.length_append]
                                    have e : posV (selL (srcOf I') (I'.ps (jof k)) i ++ [i]) = posV (selL (srcOf I') (I'.ps (jof k)) i) ++ [.int .i64 (i : Int)] := by unfold posV; rw [List.map_append]; rfl
                                    rw [e]
                                    exact HR14.out.kept hturn15.grown (ownNe' HR14.out (Nat.lt_succ_self _))
                                  · rw [fewL_succ]
                                    exact OwnsL.stored hown15
                                case measure => simp [intOf]; omega
                        · as_aux_lemma =>
                          obtain rfl : i = (I'.ps (jof k)).q.len := by omega
                          obtain ⟨sv, hsv, hsok, hslen, hscell⟩ := posAt HR.out
                          subst hsv
                          have HSL : Hid (sv.len = (selL (srcOf I') (I'.ps (jof k)) (I'.ps (jof k)).q.len).length) := hslen
                          have HSC : Hid (∀ (i x : Nat), (selL (srcOf I') (I'.ps (jof k)) (I'.ps (jof k)).q.len)[i]? = some x → wr.cell? ⟨sv.b, sv.o + i, none⟩ = some (.int .i64 (x : Int))) := hscell
                          have HSO : Hid sv.Ok := hsok
                          have HST : Hid (Stop (srcOf I') (I'.ps (jof k)) (qc (jof k))) := HE13.out.nx.done k hlt
                          have HTK : Hid ((selL (srcOf I') (I'.ps (jof k)) (qc (jof k))).length = min sv.len (64 - z)) := by
                            show _ = _
                            rw [HSL.out, HZ.out]
                            exact HST.out.take
                          obtain ⟨w14, rfl⟩ : ∃ x, x = wr := ⟨wr, rfl⟩
                          have HK14 : Hid (New w10 w14) := (HK11.out.trans HK13.out).trans HKW.out
                          have HE14 : Hid (Env w14 I' bp b3 bi w8.heap.size bq ba jof qc (.slice g.oa g.len g.cap)) := HE1.out.new HK14.out
                          have HG14 : Hid (GotAt w14 g (outL (srcOf I') I'.ps jof I'.fx qc I'.f.len) (I'.mx 0)) := HG1.out.new HK14.out
                          have HR14 : Hid (w14.heap[w11.heap.size]? = some (.cells #[.int .i64 (I'.ps (jof k)).frm, .slice (I'.ps (jof k)).q.oa (I'.ps (jof k)).q.len (I'.ps (jof k)).q.cap, .slice (I'.ps (jof k)).a.oa (I'.ps (jof k)).a.len (I'.ps (jof k)).a.cap] 45)) := HKW.out.at (fun h => h) HR13.out
                          have HOA14 : Hid (OwnsL w14 bA (fewL (I'.ps (jof k)).an (I'.ps (jof k)).a.len)) := HOA.out.kept HKW.out (fun h => h)
                          have HF14 : Hid (OwnsF w14 w10.heap.size (k + 1) I'.fx) := HF1.out.kept (HK13.out.trans HKW.out) (fun h => h)
                          have hrb14 : w11.heap.size < w14.heap.size := Nat.lt_of_lt_of_le hrb HKW.out.size
                          have hq1 : w14.cell? ⟨w11.heap.size, 1, none⟩ = some (.slice (I'.ps (jof k)).q.oa (I'.ps (jof k)).q.len (I'.ps (jof k)).q.cap) := cell_at HR14.out
                          clear hslen hscell hsok HR HO HKW HE13 HS13 HOA HR13 HF1 HK11 HK13 HE3 hi hil hba hrb
                          have hsl64 : (64 - z : Nat) ≤ 64 := by omega
                          have hsvl : sv.len ≤ 1048576 := by have := selL_le (srcOf I') (I'.ps (jof k)) (I'.ps (jof k)).q.len; have := HSL.out; omega
                          go_upto_if 170 with fail
                          go_cut [29] from 170 to 171 (fun t29 wx => t29 = .int .i64 ((selL (srcOf I') (I'.ps (jof k)) (qc (jof k))).length : Nat) ∧ wx = w14)
                          case first => as_aux_lemma =>
                            by_cases hgt : 64 - z < sv.len
                            · have hgt' : ((64 - z : Nat) : Int) < (sv.len : Int) := by omega
                              have e := HTK.out
                              go_wp2_with fail
                              go_meet
                              case rel => exact ⟨by go_num, rfl⟩
                            · have hgt' : ¬ ((64 - z : Nat) : Int) < (sv.len : Int) := by omega
                              have e := HTK.out
                              go_wp2_with fail
                              go_meet
                              case rel => exact ⟨by go_num, rfl⟩
                          case rest =>
                            obtain ⟨rfl, rfl⟩ := hcut
                            obtain ⟨w14, rfl⟩ : ∃ x, x = wc := ⟨wc, rfl⟩
                            go_upto_if 176 with fail
                            go_cut [30] from 176 to 186 (fun t30 wx => t30 = .int .i64 (qc (jof k) : Nat) ∧ wx = w14)
                            case first => as_aux_lemma =>
                              by_cases hr0 : 64 - z = 0
                              · have hr0' : ((64 - z : Nat) : Int) = 0 := by omega
                                have HC0 : Hid (qc (jof k) = 0) := HST.out.none (by have := HZ.out; omega)
                                go_wp2_with fail
                                go_meet
                                case rel => exact ⟨by rw [HC0.out]; rfl, rfl⟩
                              · have hr0' : ¬ ((64 - z : Nat) : Int) = 0 := by omega
                                by_cases hge : 64 - z ≤ sv.len
                                · have hge' : ((64 - z : Nat) : Int) ≤ (sv.len : Int) := by omega
                                  have hwr : IntKind.i64.wrap (((64 - z : Nat) : Int) - 1) = ((64 - z - 1 : Nat) : Int) := by rw [IntKind.wrap_i64]; omega
                                  have hixs := HSO.out.i22 (k := 64 - z - 1) (by omega)
                                  have hlast := HST.out.last (by have := HZ.out; omega) (by have := HZ.out; have := HSL.out; omega)
                                  rw [← HZ.out] at hlast
                                  have hcs := HSC.out _ _ hlast.2
                                  have hc0 := hlast.1
                                  have hcl := HST.out.le
                                  have hwr2 : IntKind.i64.wrap (((qc (jof k) - 1 : Nat) : Int) + 1) = ((qc (jof k) : Nat) : Int) := by rw [IntKind.wrap_i64]; omega
                                  clear hlast
                                  go_wp2_with fail
                                  go_meet
                                  case rel => exact ⟨by go_num, rfl⟩
                                · have hge' : ¬ ((64 - z : Nat) : Int) ≤ (sv.len : Int) := by omega
                                  have HC0 : Hid (qc (jof k) = (I'.ps (jof k)).q.len) := HST.out.all (by have := HZ.out; have := HSL.out; omega)
                                  go_wp2_with fail
                                  go_meet
                                  case rel => exact ⟨by rw [HC0.out], rfl⟩
                            case rest =>
                              obtain ⟨rfl, rfl⟩ := hcut
                              obtain ⟨w14, rfl⟩ : ∃ x, x = wc := ⟨wc, rfl⟩
                              have HGL : Hid (g.len = (outL (srcOf I') I'.ps jof I'.fx qc I'.f.len).length) := HG14.out.len
                              have HGM : Hid ((outL (srcOf I') I'.ps jof I'.fx qc I'.f.len).length ≤ 1048576 * 1048576) := HE14.out.few HJ.out HSM.out
                              have HT1 : Hid ((outL (srcOf I') I'.ps jof I'.fx qc (k + 1)).length = (outL (srcOf I') I'.ps jof I'.fx qc k).length + (selL (srcOf I') (I'.ps (jof k)) (qc (jof k))).length) := outL_len _ _ _ _ _ _
                              have HT2 : Hid ((outL (srcOf I') I'.ps jof I'.fx qc (k + 1)).length ≤ (outL (srcOf I') I'.ps jof I'.fx qc I'.f.len).length) := outL_mono _ _ _ _ _ (by omega)
                              have HNUM : Hid ((outL (srcOf I') I'.ps jof I'.fx qc k).length + (selL (srcOf I') (I'.ps (jof k)) (qc (jof k))).length ≤ g.len ∧ g.len ≤ 1048576 * 1048576 ∧ (selL (srcOf I') (I'.ps (jof k)) (qc (jof k))).length ≤ sv.len) := by
                                have h1 := HGL.out
                                have h2 := HGM.out
                                have h3 := HT1.out
                                have h4 := HT2.out
                                have h5 := HTK.out
                                exact ⟨by omega, by omega, by omega⟩
                              have hnl : ¬ ((g.len : Int) - ((outL (srcOf I') I'.ps jof I'.fx qc k).length : Nat)) < ((selL (srcOf I') (I'.ps (jof k)) (qc (jof k))).length : Nat) := by have := HNUM.out; omega
                              have hwr0 : IntKind.i64.wrap ((g.len : Int) - ((outL (srcOf I') I'.ps jof I'.fx qc k).length : Nat)) = (g.len : Int) - ((outL (srcOf I') I'.ps jof I'.fx qc k).length : Nat) := by have := HNUM.out; rw [IntKind.wrap_i64]; omega
                              go_wp2_with fail
                              go_loopw [31] (fun t wr => ∃ t' : Nat, t = .int .i64 t' ∧ t' ≤ (selL (srcOf I') (I'.ps (jof k)) (qc (jof k))).length ∧ New w14 wr) (fun t _ => (selL (srcOf I') (I'.ps (jof k)) (qc (jof k))).length - (intOf t).toNat)
                              case atStart => exact ⟨0, rfl, Nat.zero_le _, Kept.refl _ _⟩
                              case round =>
                                obtain ⟨t, rfl, ht, hK⟩ := hrel
                                have HKW : Hid (New w14 wr) := hK
                                clear hK
                                by_cases htl : t < (selL (srcOf I') (I'.ps (jof k)) (qc (jof k))).length
                                · as_aux_lemma =>
                                  have HGW : Hid (GotAt wr g (outL (srcOf I') I'.ps jof I'.fx qc I'.f.len) (I'.mx 0)) := HG14.out.new HKW.out
                                  have HEW : Hid (Env wr I' bp b3 bi w8.heap.size bq ba jof qc (.slice g.oa g.len g.cap)) := HE14.out.new HKW.out
                                  have hel := outL_get (srcOf I') I'.ps jof I'.fx qc hlt htl
                                  obtain ⟨p, hp⟩ : ∃ p, p = (selL (srcOf I') (I'.ps (jof k)) (qc (jof k)))[t] := ⟨_, rfl⟩
                                  rw [← hp] at hel
                                  have hg0 : wr.cell? ⟨g.b, g.o + ((outL (srcOf I') I'.ps jof I'.fx qc k).length + t) * 3, none⟩ = some (.string ((I'.ps (jof k)).qs p)) := HGW.out.c0 _ _ hel
                                  have hg1 : wr.cell? ⟨g.b, g.o + ((outL (srcOf I') I'.ps jof I'.fx qc k).length + t) * 3 + 1, none⟩ = some (.int .i64 (I'.fx k)) := HGW.out.c1 _ _ hel
                                  have hg2 : wr.cell? ⟨g.b, g.o + ((outL (srcOf I') I'.ps jof I'.fx qc k).length + t) * 3 + 2, none⟩ = some (.int .i64 (I'.mx 0)) := HGW.out.c2 _ _ hel
                                  have hb1 : (((outL (srcOf I') I'.ps jof I'.fx qc k).length : Nat) : Int) + (t : Int) ≤ 1099511627776 := by have := HNUM.out; omega
                                  have hig : ∀ w, (Instr.indexAt 37 (.slice g.oa g.len g.cap) (.int .i64 (((outL (srcOf I') I'.ps jof I'.fx qc k).length : Int) + (t : Int)))).run Try.prog w = .ok (.pointer (some ⟨g.b, g.o + ((outL (srcOf I') I'.ps jof I'.fx qc k).length + t) * 3, none⟩)) w := fun w => by have h1 := HGW.out.ok.i37 (k := (outL (srcOf I') I'.ps jof I'.fx qc k).length + t) (by have := HNUM.out; omega) w; rwa [Int.natCast_add] at h1
                                  have hps := HST.out.get htl
                                  rw [← hp] at hps
                                  have hpl : p < (I'.ps (jof k)).q.len := by have := selL_get_lt htl; have := HST.out.le; omega
                                  have hix := HSO.out.i22 (k := t) (by have := HNUM.out; omega)
                                  have hcs : wr.cell? ⟨sv.b, sv.o + t, none⟩ = some (.int .i64 (p : Int)) := HKW.out.cell (p := ⟨sv.b, sv.o + t, none⟩) (fun h => h) (HSC.out _ _ hps)
                                  have HQ : Hid (StrsAt wr (I'.ps (jof k)).q (I'.ps (jof k)).qs) := HEW.out.inn.p.q _ hjl
                                  have hiq := HQ.out.ok.i43 hpl
                                  have hcq := HQ.out.cell p hpl
                                  have hq1r : wr.cell? ⟨w11.heap.size, 1, none⟩ = some (.slice (I'.ps (jof k)).q.oa (I'.ps (jof k)).q.len (I'.ps (jof k)).q.cap) := HKW.out.cell (p := ⟨w11.heap.size, 1, none⟩) (fun h => h) hq1
                                  have him : ∀ w, (Instr.indexAt 22 (.slice I'.m.oa I'.m.len I'.m.cap) (.int .i64 0)).run Try.prog w = .ok (.pointer (some ⟨I'.m.b, I'.m.o, none⟩)) w := fun w => HEW.out.inn.m.ok.i22 (k := 0) hm1 w
                                  have hcm : wr.cell? ⟨I'.m.b, I'.m.o, none⟩ = some (.int .i64 (I'.mx 0)) := HEW.out.inn.m.cell 0 hm1
                                  have hl1 : sv.b < wr.heap.size := World.block_lt_of_cell? wr _ hcs
                                  have hl2 : (I'.ps (jof k)).q.b < wr.heap.size := World.block_lt_of_cell? wr _ hcq
                                  have hl3 : w11.heap.size < wr.heap.size := World.block_lt_of_cell? wr _ hq1r
                                  have hl4 : I'.m.b < wr.heap.size := World.block_lt_of_cell? wr _ hcm
                                  clear hel hp hps
                                  go_wp2_with fail
                                  go_quiet (fail)
                                  go_wp2_with fail
                                  go_roundw
                                  case rel => exact ⟨t + 1, by go_num, by omega, (HKW.out.alloc _).drewN _⟩
                                  case measure => simp [intOf]; omega
                                · have htt : t = (selL (srcOf I') (I'.ps (jof k)) (qc (jof k))).length := by omega
                                  subst htt
                                  obtain ⟨w15, rfl⟩ : ∃ x, x = wr := ⟨wr, rfl⟩
                                  have HK15 : Hid (New w10 w15) := HK14.out.trans HKW.out
                                  have HE15 : Hid (Env w15 I' bp b3 bi w8.heap.size bq ba jof qc (.slice g.oa g.len g.cap)) := HE1.out.new HK15.out
                                  have hq15 : w15.cell? ⟨w11.heap.size, 1, none⟩ = some (.slice (I'.ps (jof k)).q.oa (I'.ps (jof k)).q.len (I'.ps (jof k)).q.cap) := HKW.out.cell (p := ⟨w11.heap.size, 1, none⟩) (fun h => h) hq1
                                  obtain ⟨q', hrow⟩ := HE15.out.nx.st (jof k) hjl
                                  have HRQ : Hid (PRow w15 (I'.ps (jof k)) bp (bq (jof k)) (ba (jof k)) (qc (jof k)) (askL (srcOf I') (I'.ps (jof k)) (qc (jof k))) q') := hrow
                                  have hwr2 : IntKind.i64.wrap ((((outL (srcOf I') I'.ps jof I'.fx qc k).length : Nat) : Int) + ((selL (srcOf I') (I'.ps (jof k)) (qc (jof k))).length : Nat)) = (((outL (srcOf I') I'.ps jof I'.fx qc (k + 1)).length : Nat) : Int) := by have := HNUM.out; have := HT1.out; rw [IntKind.wrap_i64]; omega
                                  have hsl0 : ∀ w, (Instr.slice 43 (.slice (I'.ps (jof k)).q.oa (I'.ps (jof k)).q.len (I'.ps (jof k)).q.cap) (some (.int .i64 ((qc (jof k)) : Nat))) none none).run Try.prog w = .ok (.slice ((I'.ps (jof k)).q.tl (qc (jof k))).oa ((I'.ps (jof k)).q.tl (qc (jof k))).len ((I'.ps (jof k)).q.tl (qc (jof k))).cap) w := fun w => tl_run (T := 43) (by kernel_rfl) sz43 (I'.ps (jof k)).q HST.out.le w
                                  have hY0 : StrsAt w15 ((I'.ps (jof k)).q.tl (qc (jof k))) (fun i => (I'.ps (jof k)).qs ((qc (jof k)) + i)) := (HE15.out.inn.p.q _ hjl).tl HST.out.le
                                  have hYL0 : q'.len = ((I'.ps (jof k)).q.tl (qc (jof k))).len := by
                                    have := hrow.len
                                    show q'.len = (I'.ps (jof k)).q.len - (qc (jof k))
                                    omega
                                  obtain ⟨Y, hY⟩ : ∃ Y, Y = (I'.ps (jof k)).q.tl (qc (jof k)) := ⟨_, rfl⟩
                                  rw [← hY] at hsl0 hY0 hYL0
                                  have hsl : ∀ w, (Instr.slice 43 (.slice (I'.ps (jof k)).q.oa (I'.ps (jof k)).q.len (I'.ps (jof k)).q.cap) (some (.int .i64 ((qc (jof k)) : Nat))) none none).run Try.prog w = .ok (.slice Y.oa Y.len Y.cap) w := hsl0
                                  have HY : Hid (StrsAt w15 Y (fun i => (I'.ps (jof k)).qs ((qc (jof k)) + i))) := hY0
                                  have HYL : Hid (q'.len = Y.len ∧ q'.len ≤ 1048576) := ⟨hYL0, by have := hrow.len; omega⟩
                                  clear hrow hsl0 hY0 hYL0 hY hq1
                                  go_wp2_with fail
                                  go_quiet (first
                                    | (go_at_call 18; exact Calls.quiet_of_same (queue18 (HE15.out.new ((Kept.refl _ _).drewN _)).c3 (HE15.out.new ((Kept.refl _ _).drewN _)).pull HWF.out (HL.out k hlt) (HRQ.out.kept (S := fun _ => False) ((Kept.refl _ _).drewN _) (fun h => h) (fun h => h) (fun _ _ h => h))))
                                    | (go_at_call 17; exact Calls.quiet_of (same17 _ q' Y _ _ (HRQ.out.strs.kept (S := fun _ => False) ((Kept.refl _ _).drewN _) (fun _ h => h)) (HY.out.kept (S := fun _ => False) ((Kept.refl _ _).drewN _) (fun _ h => h)) HYL.out.1 (fun i hi => rfl) HYL.out.2)))
                                  go_wp2_with fail
                                  refine (askedlen19 (HE15.out.new ((Kept.refl _ _).drewN _)).c3 (HE15.out.new ((Kept.refl _ _).drewN _)).pull HWF.out (HL.out k hlt) (HRQ.out.kept (S := fun _ => False) ((Kept.refl _ _).drewN _) (fun h => h) (fun h => h) (fun _ _ h => h))).mono ?_
                                  rintro e w16 ⟨he, hw16⟩
                                  rw [sz_ask (srcOf_same I'), ← HZ.out] at he
                                  have HK16 : Hid (New w15 w16) := by
                                    rw [hw16]
                                    exact (Kept.refl _ _).drewN _
                                  clear hw16
                                  subst he
                                  have HKA : Hid (New w10 w16) := HK15.out.trans HK16.out
                                  have HE16 : Hid (Env w16 I' bp b3 bi w8.heap.size bq ba jof qc (.slice g.oa g.len g.cap)) := HE1.out.new HKA.out
                                  have HRQ16 : Hid (PRow w16 (I'.ps (jof k)) bp (bq (jof k)) (ba (jof k)) (qc (jof k)) (askL (srcOf I') (I'.ps (jof k)) (qc (jof k))) q') := HRQ.out.kept HK16.out (fun h => h) (fun h => h) (fun _ _ h => h)
                                  have HR16 : Hid (w16.heap[w11.heap.size]? = some (.cells #[.int .i64 (I'.ps (jof k)).frm, .slice (I'.ps (jof k)).q.oa (I'.ps (jof k)).q.len (I'.ps (jof k)).q.cap, .slice (I'.ps (jof k)).a.oa (I'.ps (jof k)).a.len (I'.ps (jof k)).a.cap] 45)) := HK16.out.at (fun h => h) (HKW.out.at (fun h => h) HR14.out)
                                  have HF16 : Hid (OwnsF w16 w10.heap.size (k + 1) I'.fx) := HF14.out.kept (HKW.out.trans HK16.out) (fun h => h)
                                  have HSC16 : Hid (∀ (i x : Nat), (selL (srcOf I') (I'.ps (jof k)) (I'.ps (jof k)).q.len)[i]? = some x → w16.cell? ⟨sv.b, sv.o + i, none⟩ = some (.int .i64 (x : Int))) := fun i x hx => (HKW.out.trans HK16.out).cell (p := ⟨sv.b, sv.o + i, none⟩) (fun h => h) (HSC.out i x hx)
                                  have hlen16 := (HOA14.out.kept (HKW.out.trans HK16.out) (fun h => h)).len
                                  rw [← HZ.out] at hlen16
                                  have hq16 : w16.cell? ⟨w11.heap.size, 1, none⟩ = some (.slice (I'.ps (jof k)).q.oa (I'.ps (jof k)).q.len (I'.ps (jof k)).q.cap) := cell_at HR16.out
                                  have ha16 : w16.cell? ⟨w11.heap.size, 2, none⟩ = some (.slice (I'.ps (jof k)).a.oa (I'.ps (jof k)).a.len (I'.ps (jof k)).a.cap) := cell_at HR16.out
                                  have hzt : (z : Int) + ((selL (srcOf I') (I'.ps (jof k)) (qc (jof k))).length : Nat) ≤ 1099511627776 := by
                                    have h1 := szL_le (fewL (I'.ps (jof k)).an (I'.ps (jof k)).a.len)
                                    have h2 : (fewL (I'.ps (jof k)).an (I'.ps (jof k)).a.len).length = (I'.ps (jof k)).a.len := by simp [fewL]
                                    have h3 := HSM.out.a _ hjl
                                    have h4 := HZ.out
                                    have h5 := HNUM.out
                                    omega
                                  have hal := HSM.out.a _ hjl
                                  clear HE15 HRQ HR14 HF14 HSC HOA14 HE14 HG14 HKW HK15 hq15 HY HYL hsl
                                  go_wp2_with fail
                                  go_loop [252] (fun t => ∃ j : Nat, t = .int .i64 j ∧ j ≤ (I'.ps (jof k)).a.len) (fun t => (I'.ps (jof k)).a.len - (intOf t).toNat)
                                  case atStart => exact ⟨0, rfl, Nat.zero_le _⟩
                                  case round =>
                                    obtain ⟨j, rfl, hj⟩ := hrel
                                    by_cases hjl2 : j < (I'.ps (jof k)).a.len
                                    · as_aux_lemma =>
                                      have HA : Hid (StrsAt w16 (I'.ps (jof k)).a (I'.ps (jof k)).an) := HE16.out.inn.p.a _ hjl
                                      have hia := HA.out.ok.i43 hjl2
                                      have hca := HA.out.cell j hjl2
                                      have HIN : Hid (inL (askL (srcOf I') (I'.ps (jof k)) (qc (jof k))) ((I'.ps (jof k)).an j) = true) := by
                                        show _ = _
                                        unfold askL
                                        rw [inL_append, inL_fewL, inFew_hit hjl2 (beq_self_eq_true _)]
                                        rfl
                                      go_wp2_with fail
                                      refine (asked20 HE16.out.c3 HE16.out.pull HWF.out (HL.out k hlt) HRQ16.out (HA.out.small j hjl2)).mono ?_
                                      rintro e w17 ⟨he, rfl⟩
                                      rw [HIN.out] at he
                                      subst he
                                      go_wp2_with fail
                                      go_round
                                      case rel => exact ⟨j + 1, by go_num, by omega⟩
                                      case measure => simp [intOf]; omega
                                    · go_wp2_with fail
                                      go_loopw [34] (fun t wr => ∃ t' : Nat, t = .int .i64 t' ∧ t' ≤ (selL (srcOf I') (I'.ps (jof k)) (qc (jof k))).length ∧ New w16 wr) (fun t _ => (selL (srcOf I') (I'.ps (jof k)) (qc (jof k))).length - (intOf t).toNat)
                                      case atStart => exact ⟨0, rfl, Nat.zero_le _, Kept.refl _ _⟩
                                      case round =>
                                        obtain ⟨t, rfl, ht, hK⟩ := hrel
                                        have HKW : Hid (New w16 wr) := hK
                                        clear hK
                                        by_cases htl : t < (selL (srcOf I') (I'.ps (jof k)) (qc (jof k))).length
                                        · as_aux_lemma =>
                                          have HEW : Hid (Env wr I' bp b3 bi w8.heap.size bq ba jof qc (.slice g.oa g.len g.cap)) := HE16.out.new HKW.out
                                          obtain ⟨p, hp⟩ : ∃ p, p = (selL (srcOf I') (I'.ps (jof k)) (qc (jof k)))[t] := ⟨_, rfl⟩
                                          have hps := HST.out.get htl
                                          rw [← hp] at hps
                                          have hpm : p ∈ selL (srcOf I') (I'.ps (jof k)) (qc (jof k)) := by rw [hp]; exact List.getElem_mem htl
                                          have hpl : p < (I'.ps (jof k)).q.len := by have := selL_get_lt htl; have := HST.out.le; omega
                                          have hix := HSO.out.i22 (k := t) (by have := HNUM.out; omega)
                                          have hcs : wr.cell? ⟨sv.b, sv.o + t, none⟩ = some (.int .i64 (p : Int)) := HKW.out.cell (p := ⟨sv.b, sv.o + t, none⟩) (fun h => h) (HSC16.out _ _ hps)
                                          have HQ : Hid (StrsAt wr (I'.ps (jof k)).q (I'.ps (jof k)).qs) := HEW.out.inn.p.q _ hjl
                                          have hiq := HQ.out.ok.i43 hpl
                                          have hcq := HQ.out.cell p hpl
                                          have hq1r : wr.cell? ⟨w11.heap.size, 1, none⟩ = some (.slice (I'.ps (jof k)).q.oa (I'.ps (jof k)).q.len (I'.ps (jof k)).q.cap) := HKW.out.cell (p := ⟨w11.heap.size, 1, none⟩) (fun h => h) hq16
                                          have HIN : Hid (inL (askL (srcOf I') (I'.ps (jof k)) (qc (jof k))) ((I'.ps (jof k)).qs p) = true) := by
                                            show _ = _
                                            unfold askL
                                            rw [inL_append]
                                            have h1 : inL ((selL (srcOf I') (I'.ps (jof k)) (qc (jof k))).map (I'.ps (jof k)).qs) ((I'.ps (jof k)).qs p) = true := by
                                              unfold inL
                                              rw [List.any_eq_true]
                                              exact ⟨_, List.mem_map.2 ⟨p, hpm, rfl⟩, beq_self_eq_true _⟩
                                            rw [h1, Bool.or_true]
                                          have HASK : Hid (∀ n, Calls Try.prog 20 #[.pointer (some ⟨bp, 0, none⟩), .int .i64 (I'.fx k), .string ((I'.ps (jof k)).qs p)] (wr.drewN n) fun e w' => e = .returned (.bool true) ∧ w' = wr.drewN n) := fun n => by
                                            have h1 := asked20 (HEW.out.new ((Kept.refl (fun _ => False) wr).drewN n)).c3 (HEW.out.new ((Kept.refl (fun _ => False) wr).drewN n)).pull HWF.out (HL.out k hlt) (HRQ16.out.kept (HKW.out.drewN n) (fun h => h) (fun h => h) (fun _ _ h => h)) (HQ.out.small p hpl)
                                            rw [HIN.out] at h1
                                            exact h1
                                          clear hp hps hpm
                                          go_wp2_with fail
                                          go_quiet ((go_at_call 20; exact Calls.quiet_of_same (HASK.out _)))
                                          go_wp2_with fail
                                          go_roundw
                                          case rel => exact ⟨t + 1, by go_num, by omega, HKW.out.drewN _⟩
                                          case measure => simp [intOf]; omega
                                        · go_wp2_with fail
                                          go_roundw
                                          case rel => exact ⟨k + 1, by go_num, rfl, by omega, HF16.out.kept HKW.out (fun h => h), HKA.out.trans HKW.out⟩
                                          case measure => simp [intOf]; omega
                  · have hkf : k = I'.f.len := by omega
                    subst hkf
                    have HE20 : Hid (Env wr I' bp b3 bi w8.heap.size bq ba jof qc (.slice g.oa g.len g.cap)) := HE1.out.new HK.out
                    have HG20 : Hid (GotAt wr g (outL (srcOf I') I'.ps jof I'.fx qc I'.f.len) (I'.mx 0)) := HG1.out.new HK.out
                    have HF20 : Hid (OwnsF wr w10.heap.size I'.f.len I'.fx) := HF.out
                    have HN20 : Hid (New w2 wr) := HN1.out.trans HK.out
                    have hpl := HSM.out.p
                    obtain ⟨w20, rfl⟩ : ∃ x, x = wr := ⟨wr, rfl⟩
                    clear HF HK HE1 HG1 HN1 HS1
                    go_upto_region 74 with fail
                    go_cut [293] from 283 to 292 (fun t wx => t = .bool false ∧ wx = w20)
                    case first => as_aux_lemma =>
                      have hgk : (g.len : Int) = ((outL (srcOf I') I'.ps jof I'.fx qc I'.f.len).length : Nat) := by have := HG20.out.len; omega
                      have heqn := eqNil 37 Try.underlying37
                      by_cases h0 : (outL (srcOf I') I'.ps jof I'.fx qc I'.f.len).length = 0
                      · have hn : g.oa.isNone = true := by
                          have : g.oa = none := HG20.out.nil.2 (by have := HG20.out.len; omega)
                          rw [this]; rfl
                        have h0' : (((outL (srcOf I') I'.ps jof I'.fx qc I'.f.len).length : Nat) : Int) = 0 := by omega
                        go_wp2_with fail
                        go_meet
                        case rel => exact ⟨rfl, rfl⟩
                      · have hn : g.oa.isNone = false := by
                          cases hg : g.oa with
                          | none => have := HG20.out.nil.1 hg; have := HG20.out.len; omega
                          | some a => rfl
                        have h0' : ¬ (((outL (srcOf I') I'.ps jof I'.fx qc I'.f.len).length : Nat) : Int) = 0 := by omega
                        go_wp2_with fail
                        go_meet
                        case rel => exact ⟨congrArg Value.bool (beq_eq_false_iff_ne.2 h0'), rfl⟩
                    case rest =>
                      obtain ⟨rfl, rfl⟩ := hcut
                      obtain ⟨w20, rfl⟩ : ∃ x, x = wc := ⟨wc, rfl⟩
                      go_wp2_with fail
                      go_loopw [296] (fun t wr => ∃ i : Nat, t = .int .i64 i ∧ i ≤ I'.p.len ∧ New w20 wr) (fun t _ => I'.p.len - (intOf t).toNat)
                      case atStart => exact ⟨0, rfl, Nat.zero_le _, Kept.refl _ _⟩
                      case round =>
                        obtain ⟨i, rfl, hi, hK⟩ := hrel
                        have HKW : Hid (New w20 wr) := hK
                        clear hK
                        by_cases hil : i < I'.p.len
                        · have HEW : Hid (Env wr I' bp b3 bi w8.heap.size bq ba jof qc (.slice g.oa g.len g.cap)) := HE20.out.new HKW.out
                          have hip := HEW.out.inn.p.ok.i25 hil
                          have hp0 := HEW.out.inn.p.c0 i hil
                          have hp1 := HEW.out.inn.p.c1 i hil
                          have hp2 := HEW.out.inn.p.c2 i hil
                          have HWF : Hid ((Lit.int .i64 (I'.ps i).frm).wf = true) := HEW.out.inn.p.wf i hil
                          obtain ⟨j, hj⟩ := lastIdx_hit (fun k => (I'.ps k).frm) I'.p.len hil
                          have HJL : Hid (lastIdx (fun k => (I'.ps k).frm) I'.p.len (I'.ps i).frm = some j) := hj
                          have hget0 := HEW.out.idx.get HWF.out
                          rw [HJL.out] at hget0
                          have hget : (Instr.lookup 31 (.map (some bi)) (.int .i64 (I'.ps i).frm) false).run Try.prog wr = .ok (.int .i64 (j : Nat)) wr := hget0
                          clear hj hget0
                          by_cases hji : j = i
                          · subst hji
                            have hlf := (HF20.out.kept HKW.out (fun h => h)).look HWF.out
                            cases hb : inF I'.fx I'.f.len (I'.ps j).frm with
                            | true =>
                              rw [hb] at hlf
                              clear hb
                              go_wp2_with fail
                              go_roundw
                              case rel => exact ⟨j + 1, by go_num, by omega, HKW.out⟩
                              case measure => simp [intOf]; omega
                            | false =>
                              rw [hb] at hlf
                              have HQ0 : Hid (qc j = 0) := HEW.out.nx.rest j hil (fun i' hi' e => by
                                have h1 := (lastIdx_lt _ _ _ _ (HL.out i' hi')).2
                                have h2 : (I'.ps (jof i')).frm = I'.fx i' := h1
                                rw [e] at h2
                                exact inF_no hb hi' h2.symm)
                              obtain ⟨q', hrow⟩ := HEW.out.nx.st j hil
                              have HRQ : Hid (PRow wr (I'.ps j) bp (bq j) (ba j) 0 (fewL (I'.ps j).an (I'.ps j).a.len) q') := by
                                have h1 : PRow wr (I'.ps j) bp (bq j) (ba j) (qc j) (askL (srcOf I') (I'.ps j) (qc j)) q' := hrow
                                rw [HQ0.out, askL_zero] at h1
                                exact h1
                              have HQW : Hid (StrsAt wr (I'.ps j).q (I'.ps j).qs) := HEW.out.inn.p.q j hil
                              have HQM : Hid ((I'.ps j).q.len ≤ 1048576) := HSM.out.q j hil
                              clear hb hrow
                              go_wp2_with fail
                              go_quiet (first
                                | (go_at_call 18; exact Calls.quiet_of_same (queue18 (HEW.out.new ((Kept.refl _ _).drewN _)).c3 (HEW.out.new ((Kept.refl _ _).drewN _)).pull HWF.out HJL.out (HRQ.out.kept (S := fun _ => False) ((Kept.refl _ _).drewN _) (fun h => h) (fun h => h) (fun _ _ h => h))))
                                | (go_at_call 17; exact Calls.quiet_of (same17 _ q' (I'.ps j).q _ _ (HRQ.out.strs.kept (S := fun _ => False) ((Kept.refl _ _).drewN _) (fun _ h => h)) (HQW.out.kept (S := fun _ => False) ((Kept.refl _ _).drewN _) (fun _ h => h)) HRQ.out.len (fun i hi => by rw [Nat.zero_add]) (by have := HRQ.out.len; have := HQM.out; omega))))
                              have HK21 : Hid (New wr (wr.drewN nq)) := (Kept.refl _ _).drewN nq
                              generalize wr.drewN nq = w21 at HK21 ⊢
                              have HK20 : Hid (New w20 w21) := HKW.out.trans HK21.out
                              have HRQ21 : Hid (PRow w21 (I'.ps j) bp (bq j) (ba j) 0 (fewL (I'.ps j).an (I'.ps j).a.len) q') := HRQ.out.kept HK21.out (fun h => h) (fun h => h) (fun _ _ h => h)
                              have hp2b : w21.cell? ⟨I'.p.b, I'.p.o + j * 3 + 2, none⟩ = some (.slice (I'.ps j).a.oa (I'.ps j).a.len (I'.ps j).a.cap) := HK21.out.cell (p := ⟨I'.p.b, I'.p.o + j * 3 + 2, none⟩) (fun h => h) hp2
                              have hal := HSM.out.a j hil
                              clear hp0 hp1 hp2 hget hlf HQW HQM HQ0 HRQ
                              go_upto_region 83 with fail
                              go_cut [334] from 324 to 333 (fun t wx => t = .bool false ∧ New w21 wx)
                              case first =>
                                have HKD : Hid (New w20 w21.drew) := HK20.out.drew
                                have HED : Hid (Env w21.drew I' bp b3 bi w8.heap.size bq ba jof qc (.slice g.oa g.len g.cap)) := HE20.out.new HKD.out
                                have HRQD : Hid (PRow w21.drew (I'.ps j) bp (bq j) (ba j) 0 (fewL (I'.ps j).an (I'.ps j).a.len) q') := HRQ21.out.kept (S := fun _ => False) (Kept.refl _ _).drew (fun h => h) (fun h => h) (fun _ _ h => h)
                                go_region_with (first
                                  | (go_at_call 19; refine (askedlen19 HED.out.c3 HED.out.pull HWF.out HJL.out HRQD.out).mono ?_; rintro e w22 ⟨rfl, rfl⟩)
                                  | (go_at_call 16; refine (set16 _ (I'.ps j).a (I'.ps j).an (HED.out.inn.p.a j hil) (HSM.out.a j hil)).mono ?_; rintro e w22 ⟨bX, rfl, hownX, hgeX, hkX⟩; have HK22 : Hid (New w21.drew w22) := hkX; have hlenX := hownX.len; clear hownX hgeX hkX))
                                all_goals
                                  go_wp2_with fail
                                  go_meet
                                  case rel => exact ⟨rfl, (Kept.refl _ _).drew.trans HK22.out⟩
                              case rest => as_aux_lemma =>
                               obtain ⟨rfl, hcut⟩ := hcut
                               obtain ⟨w22, rfl⟩ : ∃ x, x = wc := ⟨wc, rfl⟩
                               have HK22 : Hid (New w21 w22) := hcut
                               clear hcut
                               have HKE : Hid (New w20 w22) := HK20.out.trans HK22.out
                               have HE22 : Hid (Env w22 I' bp b3 bi w8.heap.size bq ba jof qc (.slice g.oa g.len g.cap)) := HE20.out.new HKE.out
                               have HRQ22 : Hid (PRow w22 (I'.ps j) bp (bq j) (ba j) 0 (fewL (I'.ps j).an (I'.ps j).a.len) q') := HRQ21.out.kept HK22.out (fun h => h) (fun h => h) (fun _ _ h => h)
                               have hp2c : w22.cell? ⟨I'.p.b, I'.p.o + j * 3 + 2, none⟩ = some (.slice (I'.ps j).a.oa (I'.ps j).a.len (I'.ps j).a.cap) := HK22.out.cell (p := ⟨I'.p.b, I'.p.o + j * 3 + 2, none⟩) (fun h => h) hp2b
                               go_wp2_with fail
                               go_loop [341] (fun t => ∃ m : Nat, t = .int .i64 m ∧ m ≤ (I'.ps j).a.len) (fun t => (I'.ps j).a.len - (intOf t).toNat)
                               case atStart => exact ⟨0, rfl, Nat.zero_le _⟩
                               case round =>
                                 obtain ⟨m, rfl, hm⟩ := hrel
                                 by_cases hml : m < (I'.ps j).a.len
                                 · have HA : Hid (StrsAt w22 (I'.ps j).a (I'.ps j).an) := HE22.out.inn.p.a j hil
                                   have hia := HA.out.ok.i43 hml
                                   have hca := HA.out.cell m hml
                                   have HIN : Hid (inL (fewL (I'.ps j).an (I'.ps j).a.len) ((I'.ps j).an m) = true) := by
                                     show _ = _
                                     rw [inL_fewL]
                                     exact inFew_hit hml (beq_self_eq_true _)
                                   go_wp2_with fail
                                   refine (asked20 HE22.out.c3 HE22.out.pull HWF.out HJL.out HRQ22.out (HA.out.small m hml)).mono ?_
                                   rintro e w23 ⟨he, rfl⟩
                                   rw [HIN.out] at he
                                   subst he
                                   go_wp2_with fail
                                   go_round
                                   case rel => exact ⟨m + 1, by go_num, by omega⟩
                                   case measure => simp [intOf]; omega
                                 · go_wp2_with fail
                                   go_roundw
                                   case rel => exact ⟨j + 1, by go_num, by omega, HKE.out⟩
                                   case measure => simp [intOf]; omega
                          · have hji' : ¬ (j : Int) = (i : Int) := by omega
                            go_wp2_with fail
                            go_roundw
                            case rel => exact ⟨i + 1, by go_num, by omega, HKW.out⟩
                            case measure => simp [intOf]; omega
                        · go_wp2_with fail
                          go_ret
                          exact ⟨rfl, (HN20.out.trans HKW.out).below (Nat.le_refl _) (fun _ _ h => h)⟩

end Go.Proofs.Qxb6601307a
