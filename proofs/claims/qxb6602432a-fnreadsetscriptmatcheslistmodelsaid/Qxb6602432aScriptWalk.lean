/-
  THE WALK of FnReadSetScriptMatchesListModel.
-/
import Derived.Test.Qxb6602432aRsScript
set_option linter.unusedVariables false
namespace Go.Proofs.Qxb6602432a
open Go.RowKit Go.Maps

set_option maxHeartbeats 1000000 in
theorem walk7 (oa : Option Addr) (len cap : Nat) (ss : Nat → ByteArray) (x : ByteArray) (w : World) (h : StrsAt w oa len ss) (hnil : oa = none → len = 0) (hlm : len ≤ maxLen) (hss : ∀ k, k < len → (ss k).size ≤ maxLen) (hx : x.size ≤ maxLen) :
    Calls Try.prog 7 #[.slice oa len cap, .string x] w fun e w' => e = .returned (.bool true) ∧ Below w.heap.size w w' := by
  have H : Hid (StrsAt w oa len ss) := h
  have HN : Hid (oa = none → len = 0) := hnil
  have HS : Hid (∀ k, k < len → (ss k).size ≤ maxLen) := hss
  have HL : Hid (len ≤ maxLen) := hlm
  have HX : Hid (x.size ≤ maxLen) := hx
  unfold maxLen at hlm hx
  clear h hnil hss
  go_enter Try.func7, Try.ntmps7
  go_wp2_with fail
  refine (zz23 w oa len cap ss x H.out HL.out HX.out HS.out).mono ?_
  rintro e w' ⟨r, rfl, rfl, hr⟩
  cases r with
  | false =>
    clear hr
    go_wp2
    go_ret
    exact ⟨rfl, Below.refl _ _⟩
  | true =>
    obtain ⟨⟨hl20, hsm⟩, hx20⟩ := hr rfl
    have HSM : Hid (∀ k, k < len → (ss k).size ≤ 1048576) := hsm
    clear hr hsm hlm hx
    by_cases hl12 : len ≤ 4096
    · go_wp2_with fail
      refine (rsAdd15 _ _ _ (by omega) (by omega) (by omega) (by omega)).mono ?_
      rintro e w'' ⟨z0, rfl, hz0, hz1, rfl⟩
      go_wp2_with fail
      go_loop [5, 6] (fun z t => ∃ (k : Nat) (y : Int), t = .int .i64 k ∧ k ≤ len ∧ z = .int .i64 y ∧ 0 ≤ y ∧ y ≤ 1048577) (fun _ t => len - (intOf t).toNat)
      case atStart => exact ⟨0, z0, rfl, Nat.zero_le _, rfl, hz0, hz1⟩
      case round =>
        obtain ⟨k, y, rfl, hk, rfl, hy0, hy1⟩ := hrel
        by_cases hlt : k < len
        · have hi := H.out.index hlt cap
          have hc := H.out.cell hlt
          have hsk := HSM.out k hlt
          go_wp2_with fail
          refine (rsAdd15 _ _ _ (by omega) (by omega) (by omega) (by omega)).mono ?_
          rintro e w'' ⟨z1, rfl, hz2, hz3, rfl⟩
          go_wp2_with fail
          go_round
          case rel => exact ⟨k + 1, z1, by go_num, by omega, rfl, hz2, hz3⟩
          case measure => simp [intOf]; omega
        · by_cases hy : y ≤ 1048576
          · go_wp2_with fail
            refine (rsCopy16 _ oa len cap ss H.out hl20 HN.out).mono ?_
            rintro e w1 ⟨oa', cap', rfl, hst, hblk, hnil', hkept⟩
            have HST : Hid (StrsAt w1 oa' len ss) := hst
            have HBL : Hid (∀ a, oa' = some a → a.block = w''.heap.size) := hblk
            have HKP : Hid (Kept (fun _ => False) w'' w1) := hkept
            clear hst hblk hnil' hkept
            go_wp2_with fail
            refine (new17 _ (fun _ => ByteArray.empty) 0 _).mono ?_
            rintro e w2 ⟨b, rfl, hrs, hb1, hk2⟩
            have hkw1 : w1.heap.size + 1 ≤ b := by simpa using hb1
            have hb2 := hrs.lt
            have HK2 : Hid (Kept (fun _ => False) w1 w2) := ((Kept.refl _ _).alloc _).trans hk2
            have HB2 : Hid (Below w''.heap.size w'' w2) := (HKP.out.trans HK2.out).below (Nat.le_refl _) (fun _ _ h => h)
            have HS2 : Hid (SetS w2 b w2.heap.size []) := SetS.start hrs
            have HT2 : Hid (StrsAt w2 oa' len ss) := HST.out.kept HK2.out (fun _ _ h => h)
            have hw1 := HKP.out.size
            clear hrs hb1 hk2
            go_wp2_with fail
            go_loopw [9, 10] (fun d t wr => ∃ k : Nat, t = .int .i64 k ∧ k ≤ len ∧ d = .int .i64 (dist ss k).length ∧ SetS wr b w2.heap.size (dist ss k) ∧ StrsAt wr oa' len ss ∧ Below w''.heap.size w'' wr ∧ w2.heap.size ≤ wr.heap.size) (fun _ t _ => len - (intOf t).toNat)
            case atStart => exact ⟨0, rfl, Nat.zero_le _, rfl, HS2.out, HT2.out, HB2.out, Nat.le_refl _⟩
            case round =>
              obtain ⟨k, rfl, hk, rfl, hset, hstr, hbel, hsz⟩ := hrel
              have HSET : Hid (SetS wr b w2.heap.size (dist ss k)) := hset
              have HSTR : Hid (StrsAt wr oa' len ss) := hstr
              have HBEL : Hid (Below w''.heap.size w'' wr) := hbel
              have hdl := dist_len ss k
              clear hset hstr hbel
              by_cases hlt : k < len
              · have hi := HSTR.out.index hlt cap'
                have hc := HSTR.out.cell hlt
                have HSK : Hid ((ss k).size ≤ maxLen) := HS.out k hlt
                cases hin : inFew ss k (ss k) with
                | true =>
                  have HD : Hid (dist ss (k + 1) = dist ss k) := by show _ = _; rw [dist, if_pos hin]
                  go_wp2_with fail
                  refine (rsIn24 _ oa' len cap' k ss (ss k) HSTR.out hk hl20).mono ?_
                  rintro e w3 ⟨rfl, rfl⟩
                  go_wp2_with fail
                  refine (addS_there _ b w2.heap.size (dist ss k) (ss k) HSET.out HSK.out (by rw [inL_dist]; exact hin)).mono ?_
                  rintro e w4 ⟨rfl, hk4⟩
                  have HSET4 : Hid (SetS w4 b w2.heap.size (dist ss (k + 1))) := by
                    rw [HD.out]
                    exact HSET.out.kept hk4 (fun h => h) (fun _ _ h => h)
                  have HSTR4 : Hid (StrsAt w4 oa' len ss) := HSTR.out.kept hk4 (fun _ _ h => h)
                  have HBEL4 : Hid (Below w''.heap.size w'' w4) := HBEL.out.trans (hk4.below (by have := HBEL.out.size; omega) (fun _ _ h => h))
                  have hsz4 := hk4.size
                  clear hk4
                  have hc4 := HSTR4.out.cell hlt
                  have HT : Hid (inL (dist ss (k + 1)) (ss k) = true) := by
                    show _ = _
                    rw [inL_dist]
                    exact inFew_hit (Nat.lt_succ_self k) (by simp)
                  clear hc
                  go_wp2_with fail
                  refine (hasS _ b w2.heap.size (dist ss (k + 1)) (ss k) HSET4.out HSK.out).mono ?_
                  rintro e w5 ⟨rfl, hk5⟩
                  have HK5 : Hid (Kept (fun _ => False) w4 w5) := hk5
                  have HSET5 : Hid (SetS w5 b w2.heap.size (dist ss (k + 1))) := HSET4.out.kept hk5 (fun h => h) (fun _ _ h => h)
                  have HSTR5 : Hid (StrsAt w5 oa' len ss) := HSTR4.out.kept hk5 (fun _ _ h => h)
                  have hsz5 := hk5.size
                  rw [HT.out]
                  clear hk5 hc4
                  go_wp2_with fail
                  refine (lenS _ b w2.heap.size (dist ss (k + 1)) HSET5.out (szL_dist ss (k + 1))).mono ?_
                  rintro e w6 ⟨rfl, rfl⟩
                  rw [HD.out]
                  go_wp2_with fail
                  go_roundw
                  case rel =>
                    refine ⟨k + 1, by go_num, by omega, by rw [HD.out], HSET5.out, HSTR5.out, ?_, by omega⟩
                    exact HBEL4.out.trans (HK5.out.below (by have := HBEL4.out.size; omega) (fun _ _ h => h))
                  case measure => simp [intOf]; omega
                | false =>
                  have HD : Hid (dist ss (k + 1) = dist ss k ++ [ss k]) := by show _ = _; rw [dist, if_neg (by rw [hin]; decide)]
                  go_wp2_with fail
                  refine (rsIn24 _ oa' len cap' k ss (ss k) HSTR.out hk hl20).mono ?_
                  rintro e w3 ⟨rfl, rfl⟩
                  go_wp2_with fail
                  refine (addS_new _ b w2.heap.size (dist ss k) (ss k) HSET.out hsz HSK.out (dist_small ss maxLen k (fun i hi => HS.out i (by omega))) (by unfold maxLen; omega) (by rw [inL_dist]; exact hin)).mono ?_
                  rintro e w4 ⟨rfl, hset4, hk4⟩
                  have HSET4 : Hid (SetS w4 b w2.heap.size (dist ss (k + 1))) := by
                    rw [HD.out]
                    exact hset4
                  have HSTR4 : Hid (StrsAt w4 oa' len ss) := HSTR.out.kept hk4 (fun a ha h => by have := HBL.out a ha; omega)
                  have HBEL4 : Hid (Below w''.heap.size w'' w4) := HBEL.out.trans (hk4.below (by have := HBEL.out.size; omega) (fun i hi h => by omega))
                  have hsz4 := hk4.size
                  clear hk4 hset4
                  have hc4 := HSTR4.out.cell hlt
                  have HT : Hid (inL (dist ss (k + 1)) (ss k) = true) := by
                    show _ = _
                    rw [inL_dist]
                    exact inFew_hit (Nat.lt_succ_self k) (by simp)
                  clear hc
                  go_wp2_with fail
                  refine (hasS _ b w2.heap.size (dist ss (k + 1)) (ss k) HSET4.out HSK.out).mono ?_
                  rintro e w5 ⟨rfl, hk5⟩
                  have HK5 : Hid (Kept (fun _ => False) w4 w5) := hk5
                  have HSET5 : Hid (SetS w5 b w2.heap.size (dist ss (k + 1))) := HSET4.out.kept hk5 (fun h => h) (fun _ _ h => h)
                  have HSTR5 : Hid (StrsAt w5 oa' len ss) := HSTR4.out.kept hk5 (fun _ _ h => h)
                  have hsz5 := hk5.size
                  rw [HT.out]
                  clear hk5 hc4
                  go_wp2_with fail
                  refine (lenS _ b w2.heap.size (dist ss (k + 1)) HSET5.out (szL_dist ss (k + 1))).mono ?_
                  rintro e w6 ⟨rfl, rfl⟩
                  have HDL : Hid ((dist ss (k + 1)).length = (dist ss k).length + 1) := by show _ = _; rw [HD.out]; simp
                  have hne : (((dist ss (k + 1)).length : Int) != ((dist ss k).length : Int) + 1) = false := by
                    rw [bne_eq_false_iff_eq, HDL.out]; omega
                  go_wp2_with fail
                  go_roundw
                  case rel =>
                    refine ⟨k + 1, by go_num, by omega, by rw [HDL.out]; go_num, HSET5.out, HSTR5.out, ?_, by omega⟩
                    exact HBEL4.out.trans (HK5.out.below (by have := HBEL4.out.size; omega) (fun _ _ h => h))
                  case measure => simp [intOf]; omega
              · have hkl : k = len := by omega
                subst hkl
                go_wp2_with fail
                go_loopw [11] (fun t wr => ∃ k' : Nat, t = .int .i64 k' ∧ k' ≤ k ∧ SetS wr b w2.heap.size (dist ss k) ∧ StrsAt wr oa' k ss ∧ Below w''.heap.size w'' wr) (fun t _ => k - (intOf t).toNat)
                case atStart => exact ⟨0, rfl, Nat.zero_le _, HSET.out, HSTR.out, HBEL.out⟩
                case round =>
                  obtain ⟨k', rfl, hk', hset, hstr, hbel⟩ := hrel
                  clear HSET HSTR HBEL
                  have HSET : Hid (SetS wr b w2.heap.size (dist ss k)) := hset
                  have HSTR : Hid (StrsAt wr oa' k ss) := hstr
                  have HBEL : Hid (Below w''.heap.size w'' wr) := hbel
                  clear hset hstr hbel
                  by_cases hlt' : k' < k
                  · have hi := HSTR.out.index hlt' cap'
                    have hc := HSTR.out.cell hlt'
                    have HT : Hid (inL (dist ss k) (ss k') = true) := by
                      show _ = _
                      rw [inL_dist]
                      exact inFew_hit hlt' (by simp)
                    go_wp2_with fail
                    refine (hasS _ b w2.heap.size (dist ss k) (ss k') HSET.out (HS.out k' hlt')).mono ?_
                    rintro e w5 ⟨rfl, hk5⟩
                    have HK5 : Hid (Kept (fun _ => False) wr w5) := hk5
                    rw [HT.out]
                    clear hk5 hc
                    go_wp2_with fail
                    go_roundw
                    case rel =>
                      refine ⟨k' + 1, by go_num, by omega, HSET.out.kept HK5.out (fun h => h) (fun _ _ h => h), HSTR.out.kept HK5.out (fun _ _ h => h), ?_⟩
                      exact HBEL.out.trans (HK5.out.below (by have := HBEL.out.size; omega) (fun _ _ h => h))
                    case measure => simp [intOf]; omega
                  · go_wp2_with fail
                    refine (hasS _ b w2.heap.size (dist ss k) x HSET.out HX.out).mono ?_
                    rintro e w5 ⟨rfl, hk5⟩
                    have HK5 : Hid (Kept (fun _ => False) wr w5) := hk5
                    have HSTR5 : Hid (StrsAt w5 oa' k ss) := HSTR.out.kept hk5 (fun _ _ h => h)
                    clear hk5
                    go_wp2_with fail
                    refine (rsIn24 _ oa' k cap' k ss x HSTR5.out (Nat.le_refl _) hl20).mono ?_
                    rintro e w6 ⟨rfl, rfl⟩
                    have HQ : Hid (inL (dist ss k) x = inFew ss k x) := inL_dist ss x k
                    rw [HQ.out]
                    go_wp2_with fail
                    go_ret
                    exact ⟨by simp, HBEL.out.trans (HK5.out.below (by have := HBEL.out.size; omega) (fun _ _ h => h))⟩
          · go_wp2
            go_ret
            exact ⟨rfl, Below.refl _ _⟩
    · go_wp2
      go_ret
      exact ⟨rfl, Below.refl _ _⟩
end Go.Proofs.Qxb6602432a
