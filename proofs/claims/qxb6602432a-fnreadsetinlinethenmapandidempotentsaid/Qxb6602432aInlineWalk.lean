/-
  THE WALK of FnReadSetInlineThenMapAndIdempotent.
-/
import Derived.Test.Qxb6602432aRsFields
set_option linter.unusedVariables false
namespace Go.Proofs.Qxb6602432a
open Go.RowKit Go.Maps

set_option maxRecDepth 100000 in
set_option maxHeartbeats 2000000 in
theorem walk8 (oa : Option Addr) (len cap : Nat) (ss : Nat → ByteArray) (w : World) (h : StrsAt w oa len ss) (hnil : oa = none → len = 0) (hlm : len ≤ maxLen) (hss : ∀ k, k < len → (ss k).size ≤ maxLen) :
    Calls Try.prog 8 #[.slice oa len cap] w fun e w' => e = .returned (.bool true) ∧ Below w.heap.size w w' := by
  have H : Hid (StrsAt w oa len ss) := h
  have HN : Hid (oa = none → len = 0) := hnil
  have HS : Hid (∀ k, k < len → (ss k).size ≤ maxLen) := hss
  have HL : Hid (len ≤ maxLen) := hlm
  unfold maxLen at hlm
  clear h hnil hss
  go_enter Try.func8, Try.ntmps8
  go_wp2_with fail
  refine (zz25 w oa len cap ss H.out HL.out HS.out).mono ?_
  rintro e w'' ⟨r, rfl, rfl, hr⟩
  cases r with
  | false =>
    clear hr
    go_wp2
    go_ret
    exact ⟨rfl, Below.refl _ _⟩
  | true =>
    obtain ⟨hl20, hsm⟩ := hr rfl
    have HSM : Hid (∀ k, k < len → (ss k).size ≤ 1048576) := hsm
    clear hr hsm hlm
    by_cases hl12 : len ≤ 4096
    · go_wp2_with fail
      go_loop [3, 4] (fun z t => ∃ (k : Nat) (y : Int), t = .int .i64 k ∧ k ≤ len ∧ z = .int .i64 y ∧ 0 ≤ y ∧ y ≤ 1048577) (fun _ t => len - (intOf t).toNat)
      case atStart => exact ⟨0, 16 * (len : Int), rfl, Nat.zero_le _, rfl, by omega, by omega⟩
      case round =>
        obtain ⟨k, y, rfl, hk, rfl, hy0, hy1⟩ := hrel
        by_cases hlt : k < len
        · have hi := H.out.index hlt cap
          have hc := H.out.cell hlt
          have hsk := HSM.out k hlt
          go_wp2_with fail
          refine (rsAdd15 _ _ _ (by omega) (by omega) (by omega) (by omega)).mono ?_
          rintro e w1 ⟨z1, rfl, hz2, hz3, rfl⟩
          go_wp2_with fail
          go_round
          case rel => exact ⟨k + 1, z1, by go_num, by omega, rfl, hz2, hz3⟩
          case measure => simp [intOf]; omega
        · by_cases hy : y ≤ 1048576
          · go_wp2_with fail
            refine (rsCopy16 _ oa len cap ss H.out hl20 HN.out).mono ?_
            rintro e w1 ⟨oa', cap', rfl, hst, hblk, hnil', hkept⟩
            have HST : Hid (StrsAt w1 oa' len ss) := hst
            have HBL : Hid (∀ a, oa' = some a → a.block = w''.heap.size) := hblk
            have HKP : Hid (Kept (fun _ => False) w'' w1) := hkept
            clear hst hblk hnil' hkept
            go_wp2_with fail
            refine (new17 _ (fun _ => ByteArray.empty) 0 _).mono ?_
            rintro e w2 ⟨b, rfl, hrs, hb1, hk2⟩
            have hkw1 : w1.heap.size + 1 ≤ b := by simpa using hb1
            have hb2 := hrs.lt
            have HK2 : Hid (Kept (fun _ => False) w1 w2) := ((Kept.refl _ _).alloc _).trans hk2
            have HB2 : Hid (Below w''.heap.size w'' w2) := (HKP.out.trans HK2.out).below (Nat.le_refl _) (fun _ _ h => h)
            have HS2 : Hid (SetS w2 b (w2.heap.size + 1) []) := SetS.start hrs
            have HT2 : Hid (StrsAt w2 oa' len ss) := HST.out.kept HK2.out (fun _ _ h => h)
            have hw1 := HKP.out.size
            have hw2 := HK2.out.size
            clear hrs hb1 hk2
            go_wp2_with fail
            have HA3 : Hid (ArrB (w2.alloc (.cells #[.string ⟨#[]⟩, .string ⟨#[]⟩, .string ⟨#[]⟩, .string ⟨#[]⟩, .string ⟨#[]⟩, .string ⟨#[]⟩, .string ⟨#[]⟩, .string ⟨#[]⟩] 24)) w2.heap.size (gf [])) := (ArrB.made w2 (fun _ => ⟨#[]⟩)).congr (fun k _ => by simp [gf]; rfl)
            go_loopw [8, 9] (fun d t wr => ∃ k : Nat, t = .int .i64 k ∧ k ≤ len ∧ d = .int .i64 (dist ss k).length ∧ SetS wr b (w2.heap.size + 1) (dist ss k) ∧ ArrB wr w2.heap.size (gf (dist ss k)) ∧ StrsAt wr oa' len ss ∧ Below w''.heap.size w'' wr ∧ w2.heap.size + 1 ≤ wr.heap.size) (fun _ t _ => len - (intOf t).toNat)
            case atStart => exact ⟨0, rfl, Nat.zero_le _, rfl, HS2.out.kept ((Kept.refl (fun _ => False) _).alloc _) (fun h => h) (fun _ _ h => h), HA3.out, HT2.out.kept ((Kept.refl (fun _ => False) _).alloc _) (fun _ _ h => h), HB2.out.alloc (by omega) _, by simp⟩
            case round =>
              obtain ⟨k, rfl, hk, rfl, hset, harr, hstr, hbel, hsz⟩ := hrel
              have HSET : Hid (SetS wr b (w2.heap.size + 1) (dist ss k)) := hset
              have HARR : Hid (ArrB wr w2.heap.size (gf (dist ss k))) := harr
              have HSTR : Hid (StrsAt wr oa' len ss) := hstr
              have HBEL : Hid (Below w''.heap.size w'' wr) := hbel
              have hdl := dist_len ss k
              clear hset harr hstr hbel HA3
              by_cases hlt : k < len
              · have hi := HSTR.out.index hlt cap'
                have hc := HSTR.out.cell hlt
                have HSK : Hid ((ss k).size ≤ maxLen) := HS.out k hlt
                cases hin : inFew ss k (ss k) with
                | true =>
                  have HD : Hid (dist ss (k + 1) = dist ss k) := by show _ = _; rw [dist, if_pos hin]
                  go_wp2_with fail
                  refine (rsIn24 _ oa' len cap' k ss (ss k) HSTR.out hk hl20).mono ?_
                  rintro e w3 ⟨rfl, rfl⟩
                  go_wp2_with fail
                  refine (addS_there _ b (w2.heap.size + 1) (dist ss k) (ss k) HSET.out HSK.out (by rw [inL_dist]; exact hin)).mono ?_
                  rintro e w4 ⟨rfl, hk4⟩
                  have HSET4 : Hid (SetS w4 b (w2.heap.size + 1) (dist ss k)) := HSET.out.kept hk4 (fun h => h) (fun _ _ h => h)
                  have HARR4 : Hid (ArrB w4 w2.heap.size (gf (dist ss k))) := HARR.out.kept hk4 (fun h => h)
                  have HSTR4 : Hid (StrsAt w4 oa' len ss) := HSTR.out.kept hk4 (fun _ _ h => h)
                  have HBEL4 : Hid (Below w''.heap.size w'' w4) := HBEL.out.trans (hk4.below (by have := HBEL.out.size; omega) (fun _ _ h => h))
                  have hsz4 := hk4.size
                  clear hk4 hc
                  by_cases h8 : 8 < (dist ss k).length
                  · have hd8 : decide ((8 : Int) < ((dist ss k).length : Int)) = true := by simp; omega
                    go_wp2_with fail
                    refine (fieldsS_on _ b (w2.heap.size + 1) (dist ss k) HSET4.out h8).mono ?_
                    rintro e w5 ⟨rfl, hk5⟩
                    have HSET5 : Hid (SetS w5 b (w2.heap.size + 1) (dist ss k)) := HSET4.out.kept hk5 (fun h => h) (fun _ _ h => h)
                    have HARR5 : Hid (ArrB w5 w2.heap.size (gf (dist ss k))) := HARR4.out.kept hk5 (fun h => h)
                    have HSTR5 : Hid (StrsAt w5 oa' len ss) := HSTR4.out.kept hk5 (fun _ _ h => h)
                    have HBEL5 : Hid (Below w''.heap.size w'' w5) := HBEL4.out.trans (hk5.below (by have := HBEL4.out.size; omega) (fun _ _ h => h))
                    have hsz5 := hk5.size
                    have hbf : w2.heap.size < w5.heap.size := by omega
                    have heq := fun w => eqIn24 w (gf (dist ss k))
                    have hf0 := HARR5.out.cell 0 (by omega)
                    have hf1 := HARR5.out.cell 1 (by omega)
                    have hf2 := HARR5.out.cell 2 (by omega)
                    have hf3 := HARR5.out.cell 3 (by omega)
                    have hf4 := HARR5.out.cell 4 (by omega)
                    have hf5 := HARR5.out.cell 5 (by omega)
                    have hf6 := HARR5.out.cell 6 (by omega)
                    have hf7 := HARR5.out.cell 7 (by omega)
                    clear hk5
                    go_wp2_with fail
                    go_roundw
                    case rel =>
                      refine ⟨k + 1, by go_num, by omega, by rw [HD.out], by rw [HD.out]; exact HSET5.out.kept ((Kept.refl (fun _ => False) _).alloc _) (fun h => h) (fun _ _ h => h), by rw [HD.out]; exact HARR5.out.kept ((Kept.refl (fun _ => False) _).alloc _) (fun h => h), HSTR5.out.kept ((Kept.refl (fun _ => False) _).alloc _) (fun _ _ h => h), HBEL5.out.alloc (by have := HBEL5.out.size; omega) _, by simp; omega⟩
                    case measure => simp [intOf]; omega
                  · go_wp2_with fail
                    refine (fieldsS_off _ b (w2.heap.size + 1) (dist ss k) HSET4.out h8).mono ?_
                    rintro e w5 ⟨rfl, hk5⟩
                    have HSET5 : Hid (SetS w5 b (w2.heap.size + 1) (dist ss k)) := HSET4.out.kept hk5 (fun h => h) (fun _ _ h => h)
                    have HARR5 : Hid (ArrB w5 w2.heap.size (gf (dist ss k))) := HARR4.out.kept hk5 (fun h => h)
                    have HSTR5 : Hid (StrsAt w5 oa' len ss) := HSTR4.out.kept hk5 (fun _ _ h => h)
                    have HBEL5 : Hid (Below w''.heap.size w'' w5) := HBEL4.out.trans (hk5.below (by have := HBEL4.out.size; omega) (fun _ _ h => h))
                    have hsz5 := hk5.size
                    have hbf : w2.heap.size < w5.heap.size := by omega
                    have heq := fun w => eqIn24 w (gf (dist ss k))
                    have hf0 := HARR5.out.cell 0 (by omega)
                    have hf1 := HARR5.out.cell 1 (by omega)
                    have hf2 := HARR5.out.cell 2 (by omega)
                    have hf3 := HARR5.out.cell 3 (by omega)
                    have hf4 := HARR5.out.cell 4 (by omega)
                    have hf5 := HARR5.out.cell 5 (by omega)
                    have hf6 := HARR5.out.cell 6 (by omega)
                    have hf7 := HARR5.out.cell 7 (by omega)
                    clear hk5
                    go_wp2_with fail
                    go_roundw
                    case rel =>
                      refine ⟨k + 1, by go_num, by omega, by rw [HD.out], by rw [HD.out]; exact HSET5.out.kept ((Kept.refl (fun _ => False) _).alloc _) (fun h => h) (fun _ _ h => h), by rw [HD.out]; exact HARR5.out.kept ((Kept.refl (fun _ => False) _).alloc _) (fun h => h), HSTR5.out.kept ((Kept.refl (fun _ => False) _).alloc _) (fun _ _ h => h), HBEL5.out.alloc (by have := HBEL5.out.size; omega) _, by simp; omega⟩
                    case measure => simp [intOf]; omega
                | false =>
                  have HD : Hid (dist ss (k + 1) = dist ss k ++ [ss k]) := by show _ = _; rw [dist, if_neg (by rw [hin]; decide)]
                  have HDL : Hid ((dist ss (k + 1)).length = (dist ss k).length + 1) := by show _ = _; rw [HD.out]; simp
                  have hne : (((dist ss (k + 1)).length : Int) != ((dist ss k).length : Int) + 1) = false := by
                    rw [bne_eq_false_iff_eq, HDL.out]; omega
                  by_cases h8 : (dist ss k).length < 8
                  · have h8' : ¬ 8 < (dist ss (k + 1)).length := by rw [HDL.out]; omega
                    have hac := HARR.out.cell _ h8
                    have haf := HARR.out.free (dist ss k).length
                    have hk3 : Kept (· = w2.heap.size) wr (wr.setCell ⟨w2.heap.size, (dist ss k).length, none⟩ (.string (ss k))) := (Kept.refl (· = w2.heap.size) wr).setNew (p := ⟨w2.heap.size, (dist ss k).length, none⟩) (fun _ => rfl) _
                    have HSTR3 : Hid (StrsAt (wr.setCell ⟨w2.heap.size, (dist ss k).length, none⟩ (.string (ss k))) oa' len ss) := HSTR.out.kept hk3 (fun a ha h => by have := HBL.out a ha; omega)
                    have HSET3 : Hid (SetS (wr.setCell ⟨w2.heap.size, (dist ss k).length, none⟩ (.string (ss k))) b (w2.heap.size + 1) (dist ss k)) := HSET.out.kept hk3 (fun h => by omega) (fun i hi h => by omega)
                    have HARR3 : Hid (ArrB (wr.setCell ⟨w2.heap.size, (dist ss k).length, none⟩ (.string (ss k))) w2.heap.size (gf (dist ss k ++ [ss k]))) := (HARR.out.set h8 (ss k)).congr (fun i _ => gf_snoc_new (dist ss k) (ss k) i)
                    have HBEL3 : Hid (Below w''.heap.size w'' (wr.setCell ⟨w2.heap.size, (dist ss k).length, none⟩ (.string (ss k)))) := HBEL.out.setCell (by show w''.heap.size ≤ w2.heap.size; omega) _
                    have hc3 := HSTR3.out.cell hlt
                    have hsz' : w2.heap.size + 1 ≤ (wr.setCell ⟨w2.heap.size, (dist ss k).length, none⟩ (.string (ss k))).heap.size := by simpa [World.setCell] using hsz
                    clear hk3
                    go_wp2_with fail
                    refine (rsIn24 _ oa' len cap' k ss (ss k) HSTR.out hk hl20).mono ?_
                    rintro e w3 ⟨rfl, rfl⟩
                    go_wp2_with fail
                    refine (addS_new _ b (w2.heap.size + 1) (dist ss k) (ss k) HSET3.out hsz' HSK.out (dist_small ss maxLen k (fun i hi => HS.out i (by omega))) (by unfold maxLen; omega) (by rw [inL_dist]; exact hin)).mono ?_
                    rintro e w4 ⟨rfl, hset4, hk4⟩
                    have HSET4 : Hid (SetS w4 b (w2.heap.size + 1) (dist ss (k + 1))) := by
                      rw [HD.out]
                      exact hset4
                    have HARR4 : Hid (ArrB w4 w2.heap.size (gf (dist ss (k + 1)))) := by
                      rw [HD.out]
                      exact HARR3.out.kept hk4 (fun h => by omega)
                    have HSTR4 : Hid (StrsAt w4 oa' len ss) := HSTR3.out.kept hk4 (fun a ha h => by have := HBL.out a ha; omega)
                    have HBEL4 : Hid (Below w''.heap.size w'' w4) := HBEL3.out.trans (hk4.below (by have := HBEL3.out.size; omega) (fun i hi h => by omega))
                    have hsz4 := hk4.size
                    clear hk4 hset4 hc hc3 hac haf
                    go_wp2_with fail
                    refine (fieldsS_off _ b (w2.heap.size + 1) (dist ss (k + 1)) HSET4.out h8').mono ?_
                    rintro e w5 ⟨rfl, hk5⟩
                    have HSET5 : Hid (SetS w5 b (w2.heap.size + 1) (dist ss (k + 1))) := HSET4.out.kept hk5 (fun h => h) (fun _ _ h => h)
                    have HARR5 : Hid (ArrB w5 w2.heap.size (gf (dist ss (k + 1)))) := HARR4.out.kept hk5 (fun h => h)
                    have HSTR5 : Hid (StrsAt w5 oa' len ss) := HSTR4.out.kept hk5 (fun _ _ h => h)
                    have HBEL5 : Hid (Below w''.heap.size w'' w5) := HBEL4.out.trans (hk5.below (by have := HBEL4.out.size; omega) (fun _ _ h => h))
                    have hsz5 := hk5.size
                    have hbf : w2.heap.size < w5.heap.size := by omega
                    have heq := fun w => eqIn24 w (gf (dist ss (k + 1)))
                    have hf0 := HARR5.out.cell 0 (by omega)
                    have hf1 := HARR5.out.cell 1 (by omega)
                    have hf2 := HARR5.out.cell 2 (by omega)
                    have hf3 := HARR5.out.cell 3 (by omega)
                    have hf4 := HARR5.out.cell 4 (by omega)
                    have hf5 := HARR5.out.cell 5 (by omega)
                    have hf6 := HARR5.out.cell 6 (by omega)
                    have hf7 := HARR5.out.cell 7 (by omega)
                    clear hk5
                    go_wp2_with fail
                    go_roundw
                    case rel =>
                      refine ⟨k + 1, by go_num, by omega, by rw [HDL.out]; go_num, HSET5.out.kept ((Kept.refl (fun _ => False) _).alloc _) (fun h => h) (fun _ _ h => h), HARR5.out.kept ((Kept.refl (fun _ => False) _).alloc _) (fun h => h), HSTR5.out.kept ((Kept.refl (fun _ => False) _).alloc _) (fun _ _ h => h), HBEL5.out.alloc (by have := HBEL5.out.size; omega) _, by simp; omega⟩
                    case measure => simp [intOf]; omega
                  · have h8' : 8 < (dist ss (k + 1)).length := by rw [HDL.out]; omega
                    go_wp2_with fail
                    refine (rsIn24 _ oa' len cap' k ss (ss k) HSTR.out hk hl20).mono ?_
                    rintro e w3 ⟨rfl, rfl⟩
                    have hsz' := hsz
                    have HSTR3 := HSTR
                    have HBEL3 := HBEL
                    have HARR3 : Hid (ArrB w3 w2.heap.size (gf (dist ss k ++ [ss k]))) := HARR.out.congr (fun i hi => gf_snoc_old (dist ss k) (ss k) i (by omega))
                    go_wp2_with fail
                    refine (addS_new _ b (w2.heap.size + 1) (dist ss k) (ss k) HSET.out hsz' HSK.out (dist_small ss maxLen k (fun i hi => HS.out i (by omega))) (by unfold maxLen; omega) (by rw [inL_dist]; exact hin)).mono ?_
                    rintro e w4 ⟨rfl, hset4, hk4⟩
                    have HSET4 : Hid (SetS w4 b (w2.heap.size + 1) (dist ss (k + 1))) := by
                      rw [HD.out]
                      exact hset4
                    have HARR4 : Hid (ArrB w4 w2.heap.size (gf (dist ss (k + 1)))) := by
                      rw [HD.out]
                      exact HARR3.out.kept hk4 (fun h => by omega)
                    have HSTR4 : Hid (StrsAt w4 oa' len ss) := HSTR3.out.kept hk4 (fun a ha h => by have := HBL.out a ha; omega)
                    have HBEL4 : Hid (Below w''.heap.size w'' w4) := HBEL3.out.trans (hk4.below (by have := HBEL3.out.size; omega) (fun i hi h => by omega))
                    have hsz4 := hk4.size
                    clear hk4 hset4 hc
                    have hd8 : decide ((8 : Int) < ((dist ss k).length : Int) + 1) = true := by simp; omega
                    go_wp2_with fail
                    refine (fieldsS_on _ b (w2.heap.size + 1) (dist ss (k + 1)) HSET4.out h8').mono ?_
                    rintro e w5 ⟨rfl, hk5⟩
                    have HSET5 : Hid (SetS w5 b (w2.heap.size + 1) (dist ss (k + 1))) := HSET4.out.kept hk5 (fun h => h) (fun _ _ h => h)
                    have HARR5 : Hid (ArrB w5 w2.heap.size (gf (dist ss (k + 1)))) := HARR4.out.kept hk5 (fun h => h)
                    have HSTR5 : Hid (StrsAt w5 oa' len ss) := HSTR4.out.kept hk5 (fun _ _ h => h)
                    have HBEL5 : Hid (Below w''.heap.size w'' w5) := HBEL4.out.trans (hk5.below (by have := HBEL4.out.size; omega) (fun _ _ h => h))
                    have hsz5 := hk5.size
                    have hbf : w2.heap.size < w5.heap.size := by omega
                    have heq := fun w => eqIn24 w (gf (dist ss (k + 1)))
                    have hf0 := HARR5.out.cell 0 (by omega)
                    have hf1 := HARR5.out.cell 1 (by omega)
                    have hf2 := HARR5.out.cell 2 (by omega)
                    have hf3 := HARR5.out.cell 3 (by omega)
                    have hf4 := HARR5.out.cell 4 (by omega)
                    have hf5 := HARR5.out.cell 5 (by omega)
                    have hf6 := HARR5.out.cell 6 (by omega)
                    have hf7 := HARR5.out.cell 7 (by omega)
                    clear hk5
                    go_wp2_with fail
                    go_roundw
                    case rel =>
                      refine ⟨k + 1, by go_num, by omega, by rw [HDL.out]; go_num, HSET5.out.kept ((Kept.refl (fun _ => False) _).alloc _) (fun h => h) (fun _ _ h => h), HARR5.out.kept ((Kept.refl (fun _ => False) _).alloc _) (fun h => h), HSTR5.out.kept ((Kept.refl (fun _ => False) _).alloc _) (fun _ _ h => h), HBEL5.out.alloc (by have := HBEL5.out.size; omega) _, by simp; omega⟩
                    case measure => simp [intOf]; omega
              · have hkl : k = len := by omega
                subst hkl
                by_cases h8 : 8 < (dist ss k).length
                · go_wp2_with fail
                  refine (fieldsS_on _ b (w2.heap.size + 1) (dist ss k) HSET.out h8).mono ?_
                  rintro e w5 ⟨rfl, hk5⟩
                  have HSET5 : Hid (SetS w5 b (w2.heap.size + 1) (dist ss k)) := HSET.out.kept hk5 (fun h => h) (fun _ _ h => h)
                  have HSTR5 : Hid (StrsAt w5 oa' k ss) := HSTR.out.kept hk5 (fun _ _ h => h)
                  have HBEL5 : Hid (Below w''.heap.size w'' w5) := HBEL.out.trans (hk5.below (by have := HBEL.out.size; omega) (fun _ _ h => h))
                  have hsz5 := hk5.size
                  clear hk5
                  go_wp2_with fail
                  refine (lenS _ b (w2.heap.size + 1) (dist ss k) (HSET5.out.kept ((Kept.refl (fun _ => False) _).alloc _) (fun h => h) (fun _ _ h => h)) (szL_dist ss k)).mono ?_
                  rintro e w6 ⟨rfl, hw6⟩
                  have HA6 : Hid (ArrB w6 w5.heap.size (gf (dist ss k))) := by rw [hw6]; exact ArrB.made w5 (gf (dist ss k))
                  have HSET6 : Hid (SetS w6 b (w2.heap.size + 1) (dist ss k)) := by rw [hw6]; exact HSET5.out.kept ((Kept.refl (fun _ => False) _).alloc _) (fun h => h) (fun _ _ h => h)
                  have HSTR6 : Hid (StrsAt w6 oa' k ss) := by rw [hw6]; exact HSTR5.out.kept ((Kept.refl (fun _ => False) _).alloc _) (fun _ _ h => h)
                  have HBEL6 : Hid (Below w''.heap.size w'' w6) := by rw [hw6]; exact HBEL5.out.alloc (by have := HBEL5.out.size; omega) _
                  clear hw6 HSET HSTR HBEL HARR
                  go_wp2_with fail
                  go_loopw [18] (fun t wr => ∃ k' : Nat, t = .int .i64 k' ∧ k' ≤ k ∧ SetS wr b (w2.heap.size + 1) (dist ss k) ∧ ArrB wr w5.heap.size (gf (dist ss k)) ∧ StrsAt wr oa' k ss ∧ Below w''.heap.size w'' wr) (fun t _ => k - (intOf t).toNat)
                  case atStart => exact ⟨0, rfl, Nat.zero_le _, HSET6.out, HA6.out, HSTR6.out, HBEL6.out⟩
                  case round =>
                    obtain ⟨k', rfl, hk', hset, harr, hstr, hbel⟩ := hrel
                    have HSET : Hid (SetS wr b (w2.heap.size + 1) (dist ss k)) := hset
                    have HARR : Hid (ArrB wr w5.heap.size (gf (dist ss k))) := harr
                    have HSTR : Hid (StrsAt wr oa' k ss) := hstr
                    have HBEL : Hid (Below w''.heap.size w'' wr) := hbel
                    clear hset harr hstr hbel
                    by_cases hlt' : k' < k
                    · have hi := HSTR.out.index hlt' cap'
                      have hc := HSTR.out.cell hlt'
                      have HT : Hid (inL (dist ss k) (ss k') = true) := by
                        show _ = _
                        rw [inL_dist]
                        exact inFew_hit hlt' (by simp)
                      go_wp2_with fail
                      refine (addS_there _ b (w2.heap.size + 1) (dist ss k) (ss k') HSET.out (HS.out k' hlt') HT.out).mono ?_
                      rintro e w7 ⟨rfl, hk7⟩
                      have HK7 : Hid (Kept (fun _ => False) wr w7) := hk7
                      clear hk7 hc
                      go_wp2_with fail
                      go_roundw
                      case rel =>
                        refine ⟨k' + 1, by go_num, by omega, HSET.out.kept HK7.out (fun h => h) (fun _ _ h => h), HARR.out.kept HK7.out (fun h => h), HSTR.out.kept HK7.out (fun _ _ h => h), ?_⟩
                        exact HBEL.out.trans (HK7.out.below (by have := HBEL.out.size; omega) (fun _ _ h => h))
                      case measure => simp [intOf]; omega
                    · go_wp2_with fail
                      refine (fieldsS_on _ b (w2.heap.size + 1) (dist ss k) HSET.out h8).mono ?_
                      rintro e w7 ⟨rfl, hk7⟩
                      have HSET7 : Hid (SetS w7 b (w2.heap.size + 1) (dist ss k)) := HSET.out.kept hk7 (fun h => h) (fun _ _ h => h)
                      have HARR7 : Hid (ArrB w7 w5.heap.size (gf (dist ss k))) := HARR.out.kept hk7 (fun h => h)
                      have HBEL7 : Hid (Below w''.heap.size w'' w7) := HBEL.out.trans (hk7.below (by have := HBEL.out.size; omega) (fun _ _ h => h))
                      have hsz7 := hk7.size
                      have hbx := HARR7.out.lt
                      have heq := fun w => eqIn24 w (gf (dist ss k))
                      have hf0 := HARR7.out.cell 0 (by omega)
                      have hf1 := HARR7.out.cell 1 (by omega)
                      have hf2 := HARR7.out.cell 2 (by omega)
                      have hf3 := HARR7.out.cell 3 (by omega)
                      have hf4 := HARR7.out.cell 4 (by omega)
                      have hf5 := HARR7.out.cell 5 (by omega)
                      have hf6 := HARR7.out.cell 6 (by omega)
                      have hf7 := HARR7.out.cell 7 (by omega)
                      clear hk7
                      go_wp2_with fail
                      refine (lenS _ b (w2.heap.size + 1) (dist ss k) (HSET7.out.kept ((Kept.refl (fun _ => False) _).alloc _) (fun h => h) (fun _ _ h => h)) (szL_dist ss k)).mono ?_
                      rintro e w8 ⟨rfl, hw8⟩
                      have HBEL8 : Hid (Below w''.heap.size w'' w8) := by rw [hw8]; exact HBEL7.out.alloc (by have := HBEL7.out.size; omega) _
                      clear hw8
                      go_wp2_with fail
                      go_ret
                      exact ⟨by simp, HBEL8.out⟩
                · go_wp2_with fail
                  refine (fieldsS_off _ b (w2.heap.size + 1) (dist ss k) HSET.out h8).mono ?_
                  rintro e w5 ⟨rfl, hk5⟩
                  have HSET5 : Hid (SetS w5 b (w2.heap.size + 1) (dist ss k)) := HSET.out.kept hk5 (fun h => h) (fun _ _ h => h)
                  have HSTR5 : Hid (StrsAt w5 oa' k ss) := HSTR.out.kept hk5 (fun _ _ h => h)
                  have HBEL5 : Hid (Below w''.heap.size w'' w5) := HBEL.out.trans (hk5.below (by have := HBEL.out.size; omega) (fun _ _ h => h))
                  have hsz5 := hk5.size
                  clear hk5
                  go_wp2_with fail
                  refine (lenS _ b (w2.heap.size + 1) (dist ss k) (HSET5.out.kept ((Kept.refl (fun _ => False) _).alloc _) (fun h => h) (fun _ _ h => h)) (szL_dist ss k)).mono ?_
                  rintro e w6 ⟨rfl, hw6⟩
                  have HA6 : Hid (ArrB w6 w5.heap.size (gf (dist ss k))) := by rw [hw6]; exact ArrB.made w5 (gf (dist ss k))
                  have HSET6 : Hid (SetS w6 b (w2.heap.size + 1) (dist ss k)) := by rw [hw6]; exact HSET5.out.kept ((Kept.refl (fun _ => False) _).alloc _) (fun h => h) (fun _ _ h => h)
                  have HSTR6 : Hid (StrsAt w6 oa' k ss) := by rw [hw6]; exact HSTR5.out.kept ((Kept.refl (fun _ => False) _).alloc _) (fun _ _ h => h)
                  have HBEL6 : Hid (Below w''.heap.size w'' w6) := by rw [hw6]; exact HBEL5.out.alloc (by have := HBEL5.out.size; omega) _
                  clear hw6 HSET HSTR HBEL HARR
                  go_wp2_with fail
                  go_loopw [18] (fun t wr => ∃ k' : Nat, t = .int .i64 k' ∧ k' ≤ k ∧ SetS wr b (w2.heap.size + 1) (dist ss k) ∧ ArrB wr w5.heap.size (gf (dist ss k)) ∧ StrsAt wr oa' k ss ∧ Below w''.heap.size w'' wr) (fun t _ => k - (intOf t).toNat)
                  case atStart => exact ⟨0, rfl, Nat.zero_le _, HSET6.out, HA6.out, HSTR6.out, HBEL6.out⟩
                  case round =>
                    obtain ⟨k', rfl, hk', hset, harr, hstr, hbel⟩ := hrel
                    have HSET : Hid (SetS wr b (w2.heap.size + 1) (dist ss k)) := hset
                    have HARR : Hid (ArrB wr w5.heap.size (gf (dist ss k))) := harr
                    have HSTR : Hid (StrsAt wr oa' k ss) := hstr
                    have HBEL : Hid (Below w''.heap.size w'' wr) := hbel
                    clear hset harr hstr hbel
                    by_cases hlt' : k' < k
                    · have hi := HSTR.out.index hlt' cap'
                      have hc := HSTR.out.cell hlt'
                      have HT : Hid (inL (dist ss k) (ss k') = true) := by
                        show _ = _
                        rw [inL_dist]
                        exact inFew_hit hlt' (by simp)
                      go_wp2_with fail
                      refine (addS_there _ b (w2.heap.size + 1) (dist ss k) (ss k') HSET.out (HS.out k' hlt') HT.out).mono ?_
                      rintro e w7 ⟨rfl, hk7⟩
                      have HK7 : Hid (Kept (fun _ => False) wr w7) := hk7
                      clear hk7 hc
                      go_wp2_with fail
                      go_roundw
                      case rel =>
                        refine ⟨k' + 1, by go_num, by omega, HSET.out.kept HK7.out (fun h => h) (fun _ _ h => h), HARR.out.kept HK7.out (fun h => h), HSTR.out.kept HK7.out (fun _ _ h => h), ?_⟩
                        exact HBEL.out.trans (HK7.out.below (by have := HBEL.out.size; omega) (fun _ _ h => h))
                      case measure => simp [intOf]; omega
                    · go_wp2_with fail
                      refine (fieldsS_off _ b (w2.heap.size + 1) (dist ss k) HSET.out h8).mono ?_
                      rintro e w7 ⟨rfl, hk7⟩
                      have HSET7 : Hid (SetS w7 b (w2.heap.size + 1) (dist ss k)) := HSET.out.kept hk7 (fun h => h) (fun _ _ h => h)
                      have HARR7 : Hid (ArrB w7 w5.heap.size (gf (dist ss k))) := HARR.out.kept hk7 (fun h => h)
                      have HBEL7 : Hid (Below w''.heap.size w'' w7) := HBEL.out.trans (hk7.below (by have := HBEL.out.size; omega) (fun _ _ h => h))
                      have hsz7 := hk7.size
                      have hbx := HARR7.out.lt
                      have heq := fun w => eqIn24 w (gf (dist ss k))
                      have hf0 := HARR7.out.cell 0 (by omega)
                      have hf1 := HARR7.out.cell 1 (by omega)
                      have hf2 := HARR7.out.cell 2 (by omega)
                      have hf3 := HARR7.out.cell 3 (by omega)
                      have hf4 := HARR7.out.cell 4 (by omega)
                      have hf5 := HARR7.out.cell 5 (by omega)
                      have hf6 := HARR7.out.cell 6 (by omega)
                      have hf7 := HARR7.out.cell 7 (by omega)
                      clear hk7
                      go_wp2_with fail
                      refine (lenS _ b (w2.heap.size + 1) (dist ss k) (HSET7.out.kept ((Kept.refl (fun _ => False) _).alloc _) (fun h => h) (fun _ _ h => h)) (szL_dist ss k)).mono ?_
                      rintro e w8 ⟨rfl, hw8⟩
                      have HBEL8 : Hid (Below w''.heap.size w'' w8) := by rw [hw8]; exact HBEL7.out.alloc (by have := HBEL7.out.size; omega) _
                      clear hw8
                      go_wp2_with fail
                      go_ret
                      exact ⟨by simp, HBEL8.out⟩
          · go_wp2
            go_ret
            exact ⟨rfl, Below.refl _ _⟩
    · go_wp2
      go_ret
      exact ⟨rfl, Below.refl _ _⟩
end Go.Proofs.Qxb6602432a
