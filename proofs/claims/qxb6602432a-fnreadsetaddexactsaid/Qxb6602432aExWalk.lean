/-
  THE WALK of FnReadSetAddExact.
-/
import Derived.Test.Qxb6602432aExRow
set_option linter.unusedVariables false
namespace Go.Proofs.Qxb6602432a
open Go.RowKit Go.Maps

set_option maxRecDepth 100000 in
set_option maxHeartbeats 4000000 in
theorem walk6 (few ss : Nat → ByteArray) (n : Int) (on : Bool) (oa : Option Addr) (len cap : Nat) (name : ByteArray) (w : World) (h : StrsAt w oa len ss) (hnil : oa = none → len = 0) (hlm : len ≤ maxLen) (hss : ∀ k, k < len → (ss k).size ≤ maxLen) (hx : name.size ≤ maxLen) (hfw : ∀ k, k < 8 → (few k).size ≤ maxLen) :
    Calls Try.prog 6 #[agg8 few, .int .i64 n, .bool on, .slice oa len cap, .string name] w fun e w' => e = .returned (.bool true) ∧ Below w.heap.size w w' := by
  have H : Hid (StrsAt w oa len ss) := h
  have HN : Hid (oa = none → len = 0) := hnil
  have HS : Hid (∀ k, k < len → (ss k).size ≤ maxLen) := hss
  have HL : Hid (len ≤ maxLen) := hlm
  have HX : Hid (name.size ≤ maxLen) := hx
  have HFW : Hid (∀ k, k < 8 → (few k).size ≤ maxLen) := hfw
  clear h hnil hss hlm hx hfw
  go_enter Try.func6, Try.ntmps6
  go_wp2_with fail
  refine (zz14 _ few ss n on oa len cap name (H.out.kept ((Kept.refl (fun _ => False) w).alloc _) (fun _ _ h => h)) HL.out HX.out HS.out HFW.out).mono ?_
  rintro e w1 ⟨r, rfl, hk1, hr⟩
  have HARR1 : Hid (ArrB w1 w.heap.size few) := (ArrB.made w few).kept hk1 (fun h => h)
  have HST1 : Hid (StrsAt w1 oa len ss) := (H.out.kept ((Kept.refl (fun _ => False) w).alloc _) (fun _ _ h => h)).kept hk1 (fun _ _ h => h)
  have HK1 : Hid (Kept (fun _ => False) w w1) := ((Kept.refl (fun _ => False) w).alloc _).trans hk1
  have HBEL1 : Hid (Below w.heap.size w w1) := HK1.out.below (Nat.le_refl _) (fun _ _ h => h)
  have hsz1 : w.heap.size + 1 ≤ w1.heap.size := by have := hk1.size; simpa using this
  clear hk1
  cases r with
  | false =>
    clear hr
    go_wp2
    go_ret
    exact ⟨rfl, HBEL1.out⟩
  | true =>
    obtain ⟨hfs, ⟨hl20, hsm⟩, hx20⟩ := hr rfl
    have HSM : Hid (∀ k, k < len → (ss k).size ≤ 1048576) := hsm
    have HFS : Hid (∀ k, k < 8 → (few k).size ≤ 1048576) := hfs
    clear hr hsm hfs
    by_cases hl16 : len ≤ 65536
    · go_wp2_with fail
      refine (rsAdd15 _ _ _ (by omega) (by omega) (by omega) (by omega)).mono ?_
      rintro e w2 ⟨z0, rfl, hz0, hz1, rfl⟩
      go_wp2_with fail
      go_loop [11, 12] (fun z t => ∃ (k : Nat) (y : Int), t = .int .i64 k ∧ k ≤ 8 ∧ z = .int .i64 y ∧ 0 ≤ y ∧ y ≤ 1048577) (fun _ t => 8 - (intOf t).toNat)
      case atStart => exact ⟨0, z0, rfl, by omega, rfl, hz0, hz1⟩
      case round =>
        obtain ⟨k, y, rfl, hk, rfl, hy0, hy1⟩ := hrel
        by_cases h8 : k < 8
        · have hc := HARR1.out.cell k h8
          have hsk := HFS.out k h8
          have h8' : (k : Int) < 8 := by omega
          go_wp2_with fail
          refine (rsAdd15 _ _ _ (by omega) (by omega) (by omega) (by omega)).mono ?_
          rintro e w3 ⟨z1, rfl, hz2, hz3, rfl⟩
          go_wp2_with fail
          go_round
          case rel => exact ⟨k + 1, z1, by go_num, by omega, rfl, hz2, hz3⟩
          case measure => simp [intOf]; omega
        · clear hz0 hz1
          go_wp2_with fail
          go_loop [11, 13] (fun z t => ∃ (k : Nat) (y : Int), t = .int .i64 k ∧ k ≤ len ∧ z = .int .i64 y ∧ 0 ≤ y ∧ y ≤ 1048577) (fun _ t => len - (intOf t).toNat)
          case atStart => exact ⟨0, y, rfl, Nat.zero_le _, rfl, hy0, hy1⟩
          case round =>
            clear hy0 hy1 hk h8
            obtain ⟨k2, y2, rfl, hk, rfl, hy0, hy1⟩ := hrel
            by_cases hlt : k2 < len
            · have hi := HST1.out.index hlt cap
              have hc := HST1.out.cell hlt
              have hsk := HSM.out k2 hlt
              go_wp2_with fail
              refine (rsAdd15 _ _ _ (by omega) (by omega) (by omega) (by omega)).mono ?_
              rintro e w3 ⟨z1, rfl, hz2, hz3, rfl⟩
              go_wp2_with fail
              go_round
              case rel => exact ⟨k2 + 1, z1, by go_num, by omega, rfl, hz2, hz3⟩
              case measure => simp [intOf]; omega
            · by_cases hy : y2 ≤ 1048576
              · cases on with
                | true =>
                  have I := ifcOn few n len ss name hl16 HSM.out HX.out
                  go_wp2_with fail
                  have HSTR := HST1
                  have HARR := HARR1
                  have HBEL := HBEL1
                  refine (rsCopy16 _ oa len cap ss HSTR.out hl20 HN.out).mono ?_
                  rintro e w3 ⟨oa', cap', rfl, hst, hblk, hnil', hk3⟩
                  have HST3 : Hid (StrsAt w3 oa' len ss) := hst
                  have HBL3 : Hid (∀ a, oa' = some a → 0 < len → a.block < w3.heap.size) := fun a ha hl => hst.blk_lt a ha hl
                  have HARR3 : Hid (ArrB w3 w.heap.size few) := HARR.out.kept hk3 (fun h => h)
                  have HBEL3 : Hid (Below w.heap.size w w3) := HBEL.out.trans (hk3.below (by have := HBEL.out.size; omega) (fun _ _ h => h))
                  have hsz3 := HARR3.out.lt
                  obtain ⟨hf0, hf1, hf2, hf3, hf4, hf5, hf6, hf7⟩ := HARR3.out.all
                  clear hst hblk hnil' hk3
                  go_wp2_with fail
                  refine (I.new _ oa' cap' HST3.out).mono ?_
                  rintro e w4 ⟨b, rfl, hS0, hb1, hb2, hk4⟩
                  have HS04 : Hid (I.S0 b w4.heap.size w4) := hS0
                  have HST4 : Hid (StrsAt w4 oa' len ss) := HST3.out.kept hk4 (fun _ _ h => h)
                  have HARR4 : Hid (ArrB w4 w.heap.size few) := HARR3.out.kept hk4 (fun h => h)
                  have HBEL4 : Hid (Below w.heap.size w w4) := HBEL3.out.trans (hk4.below (by have := HBEL3.out.size; omega) (fun _ _ h => h))
                  have hmk := fun w => make31 w len hl16
                  have HLB0 : Hid (0 ≤ I.l0) := I.lb0
                  have HLB1 : Hid (I.l0 ≤ 1048577) := I.lb1
                  clear hS0 hk4 hf0 hf1 hf2 hf3 hf4 hf5 hf6 hf7
                  go_wp2_with fail
                  go_loopw [19] (fun t wr => ∃ k : Nat, t = .int .i64 k ∧ k ≤ len + 9 ∧ BRow wr w4.heap.size (len + 9) k (fun i => I.h0 (pv few ss len name i)) ∧ I.S0 b w4.heap.size wr ∧ ArrB wr w.heap.size few ∧ StrsAt wr oa' len ss ∧ Below w.heap.size w wr) (fun t _ => len + 9 - (intOf t).toNat)
                  case atStart =>
                    have ka : Kept (fun _ => False) w4 (w4.alloc (.cells (Array.replicate (len + 9) (.bool false)) 4)) := (Kept.refl _ _).alloc _
                    exact ⟨0, rfl, Nat.zero_le _, BRow.made w4 (len + 9) _, I.kept0 _ _ _ _ _ HS04.out ka (fun _ _ _ h => h), HARR4.out.kept ka (fun h => h), HST4.out.kept ka (fun _ _ h => h), HBEL4.out.alloc (by have := HBEL4.out.size; omega) _⟩
                  case round =>
                    obtain ⟨k5, rfl, hk5, hrow, hs0, harr, hstr, hbel⟩ := hrel
                    have HROW : Hid (BRow wr w4.heap.size (len + 9) k5 (fun i => I.h0 (pv few ss len name i))) := hrow
                    have HS0 : Hid (I.S0 b w4.heap.size wr) := hs0
                    have HARR5 : Hid (ArrB wr w.heap.size few) := harr
                    have HSTR5 : Hid (StrsAt wr oa' len ss) := hstr
                    have HBEL5 : Hid (Below w.heap.size w wr) := hbel
                    clear hrow hs0 harr hstr hbel
                    by_cases hlt5 : k5 < len + 9
                    · obtain ⟨hf0, hf1, hf2, hf3, hf4, hf5, hf6, hf7⟩ := HARR5.out.all
                      go_wp2_with fail
                      refine (probe19 _ few ss oa' len cap' name k5 HSTR5.out hl20 (by omega)).mono ?_
                      rintro e w6 ⟨rfl, hk6⟩
                      have HK6 : Hid (Kept (fun _ => False) wr w6) := hk6
                      clear hk6 hf0 hf1 hf2 hf3 hf4 hf5 hf6 hf7
                      go_wp2_with fail
                      refine (I.has0 b w4.heap.size _ (pv few ss len name k5) (I.kept0 _ _ _ _ _ HS0.out HK6.out (fun _ _ _ h => h)) (pv_small few ss len name k5 HFW.out HS.out HX.out)).mono ?_
                      rintro e w7 ⟨rfl, m7, hm7⟩
                      have HK7 : Hid (Kept (fun _ => False) wr w7) := by rw [hm7]; exact HK6.out.drewN m7
                      have HROW7 : Hid (BRow w7 w4.heap.size (len + 9) k5 (fun i => I.h0 (pv few ss len name i))) := HROW.out.kept HK7.out (fun h => h)
                      obtain ⟨s0, hc0⟩ := HROW7.out.cell hlt5
                      have hfz := HROW7.out.free k5
                      have hlt5' : (k5 : Int) < (len : Int) + 9 := by omega
                      clear hm7
                      go_wp2_with fail
                      go_roundw
                      case rel =>
                        have kk : Kept (· = w4.heap.size) wr (w7.setCell ⟨w4.heap.size, k5, none⟩ (.bool (I.h0 (pv few ss len name k5)))) := (HK7.out.mono (T := (· = w4.heap.size)) (fun _ _ h => h.elim)).setNew (p := ⟨w4.heap.size, k5, none⟩) (fun _ => rfl) _
                        exact ⟨k5 + 1, by go_num, by omega, HROW7.out.set hlt5, I.kept0 _ _ _ _ _ HS0.out kk (fun i _ hi h => by omega), HARR5.out.kept kk (fun h => by omega), HSTR5.out.kept' kk (fun a ha hl h => by have := HBL3.out a ha hl; omega), HBEL5.out.trans (kk.below (by have := HBEL5.out.size; omega) (fun i hi h => by omega))⟩
                      case measure => simp [intOf]; omega
                    · have e5 : k5 = len + 9 := by omega
                      subst e5
                      have hcl : wr.cell? ⟨w4.heap.size, 8 + len, none⟩ = some (.bool (I.h0 name)) := by
                        have := HROW.out.get (i := 8 + len) (by omega)
                        simp only [pv_last] at this
                        exact this
                      have hgl := HROW.out.lt
                      go_wp2_with fail
                      refine (I.len0 b w4.heap.size _ HS0.out).mono ?_
                      rintro e w6 ⟨rfl, rfl⟩
                      cases hh : I.h0 name with
                      | true =>
                        rw [hh] at hcl
                        have HH : Hid (I.h0 name = true) := hh
                        clear hh
                        go_wp2_with fail
                        refine (I.add b w4.heap.size _ HS0.out (by omega)).mono ?_
                        rintro e w7 ⟨rfl, hs1, hk7⟩
                        have HS17 : Hid (I.S1 b w7) := hs1
                        have HROW7 : Hid (BRow w7 w4.heap.size (len + 9) (len + 9) (fun i => I.h0 (pv few ss len name i))) := HROW.out.kept hk7 (fun h => by omega)
                        have HARR7 : Hid (ArrB w7 w.heap.size few) := HARR5.out.kept hk7 (fun h => by omega)
                        have HSTR7 : Hid (StrsAt w7 oa' len ss) := HSTR5.out.kept' hk7 (fun a ha hl h => by have := HBL3.out a ha hl; omega)
                        have HBEL7 : Hid (Below w.heap.size w w7) := HBEL5.out.trans (hk7.below (by have := HBEL5.out.size; omega) (fun i hi h => by omega))
                        clear hs1 hk7 hcl
                        go_wp2_with fail
                        go_loopw [22] (fun t wr => ∃ k : Nat, t = .int .i64 k ∧ k ≤ len + 9 ∧ BRow wr w4.heap.size (len + 9) (len + 9) (fun i => I.h0 (pv few ss len name i)) ∧ I.S1 b wr ∧ ArrB wr w.heap.size few ∧ StrsAt wr oa' len ss ∧ Below w.heap.size w wr) (fun t _ => len + 9 - (intOf t).toNat)
                        case atStart => exact ⟨0, rfl, Nat.zero_le _, HROW7.out, HS17.out, HARR7.out, HSTR7.out, HBEL7.out⟩
                        case round =>
                          obtain ⟨k6, rfl, hk6, hrow, hs1, harr, hstr, hbel⟩ := hrel
                          have HROW8 : Hid (BRow wr w4.heap.size (len + 9) (len + 9) (fun i => I.h0 (pv few ss len name i))) := hrow
                          have HS18 : Hid (I.S1 b wr) := hs1
                          have HARR8 : Hid (ArrB wr w.heap.size few) := harr
                          have HSTR8 : Hid (StrsAt wr oa' len ss) := hstr
                          have HBEL8 : Hid (Below w.heap.size w wr) := hbel
                          clear hrow hs1 harr hstr hbel
                          by_cases hlt6 : k6 < len + 9
                          · obtain ⟨hf0, hf1, hf2, hf3, hf4, hf5, hf6, hf7⟩ := HARR8.out.all
                            go_wp2_with fail
                            refine (probe19 _ few ss oa' len cap' name k6 HSTR8.out hl20 (by omega)).mono ?_
                            rintro e w8 ⟨rfl, hk8⟩
                            have HK8 : Hid (Kept (fun _ => False) wr w8) := hk8
                            have HS19 : Hid (I.S1 b w8) := I.kept1 _ _ _ HS18.out hk8
                            have hc8 : w8.cell? ⟨w4.heap.size, k6, none⟩ = some (.bool (I.h0 (pv few ss len name k6))) := (HROW8.out.kept hk8 (fun h => h)).get hlt6
                            have hlt6' : (k6 : Int) < (len : Int) + 9 := by omega
                            have HPV : Hid ((pv few ss len name k6).size ≤ maxLen) := pv_small few ss len name k6 HFW.out HS.out HX.out
                            clear hk8 hf0 hf1 hf2 hf3 hf4 hf5 hf6 hf7
                            cases hb : I.h0 (pv few ss len name k6) with
                            | true =>
                              rw [hb] at hc8
                              go_wp2_with fail
                              go_quiet ((go_at_call 18; exact Calls.quiet_of (I.has1 b _ (pv few ss len name k6) (I.kept1 _ _ _ HS19.out ((Kept.refl _ _).drewN _)) HPV.out)))
                              go_wp2_with fail
                              go_roundw
                              case rel =>
                                have kk : Kept (fun _ => False) wr (w8.drewN nq) := HK8.out.drewN nq
                                exact ⟨k6 + 1, by go_num, by omega, HROW8.out.kept kk (fun h => h), I.kept1 _ _ _ HS18.out kk, HARR8.out.kept kk (fun h => h), HSTR8.out.kept kk (fun _ _ h => h), HBEL8.out.trans (kk.below (by have := HBEL8.out.size; omega) (fun _ _ h => h))⟩
                              case measure => simp [intOf]; omega
                            | false =>
                              rw [hb] at hc8
                              go_wp2_with fail
                              go_quiet ((go_at_call 18; exact Calls.quiet_of (I.has1 b _ (pv few ss len name k6) (I.kept1 _ _ _ HS19.out ((Kept.refl _ _).drewN _)) HPV.out)))
                              go_wp2_with fail
                              go_roundw
                              case rel =>
                                have kk : Kept (fun _ => False) wr (w8.drewN nq) := HK8.out.drewN nq
                                exact ⟨k6 + 1, by go_num, by omega, HROW8.out.kept kk (fun h => h), I.kept1 _ _ _ HS18.out kk, HARR8.out.kept kk (fun h => h), HSTR8.out.kept kk (fun _ _ h => h), HBEL8.out.trans (kk.below (by have := HBEL8.out.size; omega) (fun _ _ h => h))⟩
                              case measure => simp [intOf]; omega
                          · have hlb0 := HLB0.out
                            have hlb1 := HLB1.out
                            have hne : (I.l1 != I.l0) = false := by rw [bne_eq_false_iff_eq, I.lens, HH.out]; rfl
                            go_wp2_with fail
                            refine (I.len1 b _ HS18.out).mono ?_
                            rintro e w9 ⟨rfl, rfl⟩
                            go_wp2_with fail
                            have hfl := I.fields b w9 HS18.out
                            rcases I.fin with ⟨_, eo, ef, en⟩ | ⟨h0, _⟩ | ⟨h0, _⟩ | ⟨h0, _⟩
                            · rw [ef, en, eo] at hfl
                              refine hfl.mono ?_
                              rintro e w11 ⟨rfl, hk11⟩
                              have HARR11 : Hid (ArrB w11 w.heap.size few) := HARR8.out.kept hk11 (fun h => h)
                              have HBEL11 : Hid (Below w.heap.size w w11) := HBEL8.out.trans (hk11.below (by have := HBEL8.out.size; omega) (fun _ _ h => h))
                              have hbp := HARR11.out.lt
                              have heq := fun w => eqIn24 w few
                              obtain ⟨hf0, hf1, hf2, hf3, hf4, hf5, hf6, hf7⟩ := HARR11.out.all
                              clear hfl hk11 eo ef en
                              go_wp2_with fail
                              go_ret
                              exact ⟨by simp, HBEL11.out.alloc (by have := HBEL11.out.size; omega) _⟩
                            · cases h0
                            · cases h0
                            · cases h0
                      | false =>
                        rw [hh] at hcl
                        have HH : Hid (I.h0 name = false) := hh
                        clear hh
                        go_wp2_with fail
                        refine (I.add b w4.heap.size _ HS0.out (by omega)).mono ?_
                        rintro e w7 ⟨rfl, hs1, hk7⟩
                        have HS17 : Hid (I.S1 b w7) := hs1
                        have HROW7 : Hid (BRow w7 w4.heap.size (len + 9) (len + 9) (fun i => I.h0 (pv few ss len name i))) := HROW.out.kept hk7 (fun h => by omega)
                        have HARR7 : Hid (ArrB w7 w.heap.size few) := HARR5.out.kept hk7 (fun h => by omega)
                        have HSTR7 : Hid (StrsAt w7 oa' len ss) := HSTR5.out.kept' hk7 (fun a ha hl h => by have := HBL3.out a ha hl; omega)
                        have HBEL7 : Hid (Below w.heap.size w w7) := HBEL5.out.trans (hk7.below (by have := HBEL5.out.size; omega) (fun i hi h => by omega))
                        clear hs1 hk7 hcl
                        go_wp2_with fail
                        go_loopw [22] (fun t wr => ∃ k : Nat, t = .int .i64 k ∧ k ≤ len + 9 ∧ BRow wr w4.heap.size (len + 9) (len + 9) (fun i => I.h0 (pv few ss len name i)) ∧ I.S1 b wr ∧ ArrB wr w.heap.size few ∧ StrsAt wr oa' len ss ∧ Below w.heap.size w wr) (fun t _ => len + 9 - (intOf t).toNat)
                        case atStart => exact ⟨0, rfl, Nat.zero_le _, HROW7.out, HS17.out, HARR7.out, HSTR7.out, HBEL7.out⟩
                        case round =>
                          obtain ⟨k6, rfl, hk6, hrow, hs1, harr, hstr, hbel⟩ := hrel
                          have HROW8 : Hid (BRow wr w4.heap.size (len + 9) (len + 9) (fun i => I.h0 (pv few ss len name i))) := hrow
                          have HS18 : Hid (I.S1 b wr) := hs1
                          have HARR8 : Hid (ArrB wr w.heap.size few) := harr
                          have HSTR8 : Hid (StrsAt wr oa' len ss) := hstr
                          have HBEL8 : Hid (Below w.heap.size w wr) := hbel
                          clear hrow hs1 harr hstr hbel
                          by_cases hlt6 : k6 < len + 9
                          · obtain ⟨hf0, hf1, hf2, hf3, hf4, hf5, hf6, hf7⟩ := HARR8.out.all
                            go_wp2_with fail
                            refine (probe19 _ few ss oa' len cap' name k6 HSTR8.out hl20 (by omega)).mono ?_
                            rintro e w8 ⟨rfl, hk8⟩
                            have HK8 : Hid (Kept (fun _ => False) wr w8) := hk8
                            have HS19 : Hid (I.S1 b w8) := I.kept1 _ _ _ HS18.out hk8
                            have hc8 : w8.cell? ⟨w4.heap.size, k6, none⟩ = some (.bool (I.h0 (pv few ss len name k6))) := (HROW8.out.kept hk8 (fun h => h)).get hlt6
                            have hlt6' : (k6 : Int) < (len : Int) + 9 := by omega
                            have HPV : Hid ((pv few ss len name k6).size ≤ maxLen) := pv_small few ss len name k6 HFW.out HS.out HX.out
                            clear hk8 hf0 hf1 hf2 hf3 hf4 hf5 hf6 hf7
                            cases hb : I.h0 (pv few ss len name k6) with
                            | true =>
                              rw [hb] at hc8
                              go_wp2_with fail
                              go_quiet ((go_at_call 18; exact Calls.quiet_of (I.has1 b _ (pv few ss len name k6) (I.kept1 _ _ _ HS19.out ((Kept.refl _ _).drewN _)) HPV.out)))
                              go_wp2_with fail
                              go_roundw
                              case rel =>
                                have kk : Kept (fun _ => False) wr (w8.drewN nq) := HK8.out.drewN nq
                                exact ⟨k6 + 1, by go_num, by omega, HROW8.out.kept kk (fun h => h), I.kept1 _ _ _ HS18.out kk, HARR8.out.kept kk (fun h => h), HSTR8.out.kept kk (fun _ _ h => h), HBEL8.out.trans (kk.below (by have := HBEL8.out.size; omega) (fun _ _ h => h))⟩
                              case measure => simp [intOf]; omega
                            | false =>
                              rw [hb] at hc8
                              go_wp2_with fail
                              go_quiet ((go_at_call 18; exact Calls.quiet_of (I.has1 b _ (pv few ss len name k6) (I.kept1 _ _ _ HS19.out ((Kept.refl _ _).drewN _)) HPV.out)))
                              go_wp2_with fail
                              go_roundw
                              case rel =>
                                have kk : Kept (fun _ => False) wr (w8.drewN nq) := HK8.out.drewN nq
                                exact ⟨k6 + 1, by go_num, by omega, HROW8.out.kept kk (fun h => h), I.kept1 _ _ _ HS18.out kk, HARR8.out.kept kk (fun h => h), HSTR8.out.kept kk (fun _ _ h => h), HBEL8.out.trans (kk.below (by have := HBEL8.out.size; omega) (fun _ _ h => h))⟩
                              case measure => simp [intOf]; omega
                          · have hlb0 := HLB0.out
                            have hlb1 := HLB1.out
                            have hne : (I.l1 != I.l0 + 1) = false := by rw [bne_eq_false_iff_eq, I.lens, HH.out]; rfl
                            go_wp2_with fail
                            refine (I.len1 b _ HS18.out).mono ?_
                            rintro e w9 ⟨rfl, rfl⟩
                            go_wp2_with fail
                            have hfl := I.fields b w9 HS18.out
                            rcases I.fin with ⟨_, eo, ef, en⟩ | ⟨h0, _⟩ | ⟨h0, _⟩ | ⟨h0, _⟩
                            · rw [ef, en, eo] at hfl
                              refine hfl.mono ?_
                              rintro e w11 ⟨rfl, hk11⟩
                              have HARR11 : Hid (ArrB w11 w.heap.size few) := HARR8.out.kept hk11 (fun h => h)
                              have HBEL11 : Hid (Below w.heap.size w w11) := HBEL8.out.trans (hk11.below (by have := HBEL8.out.size; omega) (fun _ _ h => h))
                              have hbp := HARR11.out.lt
                              have heq := fun w => eqIn24 w few
                              obtain ⟨hf0, hf1, hf2, hf3, hf4, hf5, hf6, hf7⟩ := HARR11.out.all
                              clear hfl hk11 eo ef en
                              go_wp2_with fail
                              go_ret
                              exact ⟨by simp, HBEL11.out.alloc (by have := HBEL11.out.size; omega) _⟩
                            · cases h0
                            · cases h0
                            · cases h0
                | false =>
                  by_cases hn : 0 ≤ n ∧ n ≤ 8
                  · obtain ⟨hn0, hn8⟩ := hn
                    obtain ⟨m, rfl⟩ := Int.eq_ofNat_of_zero_le hn0
                    have hm8 : m ≤ 8 := by omega
                    go_wp2_with fail
                    go_loopw [14] (fun t wr => ∃ a : Nat, t = .int .i64 a ∧ a ≤ m ∧ (∀ i, i < a → ∀ j, i < j → j < m → ((few i).toList == (few j).toList) = false) ∧ Kept (fun _ => False) w2 wr) (fun t _ => m - (intOf t).toNat)
                    case atStart => exact ⟨0, rfl, Nat.zero_le _, fun i hi => absurd hi (Nat.not_lt_zero _), Kept.refl _ _⟩
                    case round =>
                      obtain ⟨a, rfl, ha, hda, hka⟩ := hrel
                      have HDA : Hid (∀ i, i < a → ∀ j, i < j → j < m → ((few i).toList == (few j).toList) = false) := hda
                      have HKA : Hid (Kept (fun _ => False) w2 wr) := hka
                      clear hda hka
                      by_cases halt : a < m
                      · go_wp2_with fail
                        go_loopw [15] (fun t wr => ∃ b : Nat, t = .int .i64 b ∧ a < b ∧ b ≤ m ∧ (∀ j, a < j → j < b → ((few a).toList == (few j).toList) = false) ∧ Kept (fun _ => False) w2 wr) (fun t _ => m - (intOf t).toNat)
                        case atStart => exact ⟨a + 1, by go_num, by omega, by omega, fun j h1 h2 => absurd h1 (by omega), HKA.out⟩
                        case round =>
                          clear HKA
                          obtain ⟨b, rfl, hb1, hb2, hdb, hkb⟩ := hrel
                          have HDB : Hid (∀ j, a < j → j < b → ((few a).toList == (few j).toList) = false) := hdb
                          have HKB : Hid (Kept (fun _ => False) w2 wr) := hkb
                          have HARRB : Hid (ArrB wr w.heap.size few) := HARR1.out.kept hkb (fun h => h)
                          have HBELB : Hid (Below w.heap.size w wr) := HBEL1.out.trans (hkb.below (by omega) (fun _ _ h => h))
                          clear hdb hkb
                          by_cases hblt : b < m
                          · have hca := HARRB.out.cell a (by omega)
                            have hcb := HARRB.out.cell b (by omega)
                            have ha8 : (a : Int) < 8 := by omega
                            have hb8 : (b : Int) < 8 := by omega
                            cases hab : (few a).toList == (few b).toList with
                            | true =>
                              go_wp2_with fail
                              go_region
                              go_wp2_with fail
                              go_ret
                              exact ⟨rfl, HBELB.out.drew⟩
                            | false =>
                              have HAB : Hid (((few a).toList == (few b).toList) = false) := hab
                              go_wp2_with fail
                              go_region
                              go_wp2_with fail
                              go_roundw
                              case rel =>
                                refine ⟨b + 1, by go_num, by omega, by omega, ?_, HKB.out.drew⟩
                                intro j h1 h2
                                by_cases hjb : j < b
                                · exact HDB.out j h1 hjb
                                · have : j = b := by omega
                                  rw [this]; exact HAB.out
                              case measure => simp [intOf]; omega
                          · go_wp2_with fail
                            go_roundw
                            case rel =>
                              refine ⟨a + 1, by go_num, by omega, ?_, HKB.out⟩
                              intro i hi j h1 h2
                              by_cases hia : i < a
                              · exact HDA.out i hia j h1 h2
                              · have : i = a := by omega
                                subst this
                                exact HDB.out j h1 (by omega)
                            case measure => simp [intOf]; omega
                      · have HD : Hid (Dist few m) := fun i j h1 h2 => HDA.out i (by omega) j h1 h2
                        have HSTR : Hid (StrsAt wr oa len ss) := HST1.out.kept HKA.out (fun _ _ h => h)
                        have HARR : Hid (ArrB wr w.heap.size few) := HARR1.out.kept HKA.out (fun h => h)
                        have HBEL : Hid (Below w.heap.size w wr) := HBEL1.out.trans (HKA.out.below (by omega) (fun _ _ h => h))
                        obtain ⟨I⟩ : Nonempty (Ifc few m false len ss name) := by
                          cases hin : inFew few m name with
                          | true => exact ⟨ifcHad few m hm8 len ss name hin⟩
                          | false =>
                            by_cases hm : m < 8
                            · exact ⟨ifcInl few m hm len ss name hin⟩
                            · have e8 : m = 8 := by omega
                              subst e8
                              exact ⟨ifcSpill few len ss name HX.out HFW.out hin HD.out⟩
                        go_wp2_with fail
                        refine (rsCopy16 _ oa len cap ss HSTR.out hl20 HN.out).mono ?_
                        rintro e w3 ⟨oa', cap', rfl, hst, hblk, hnil', hk3⟩
                        have HST3 : Hid (StrsAt w3 oa' len ss) := hst
                        have HBL3 : Hid (∀ a, oa' = some a → 0 < len → a.block < w3.heap.size) := fun a ha hl => hst.blk_lt a ha hl
                        have HARR3 : Hid (ArrB w3 w.heap.size few) := HARR.out.kept hk3 (fun h => h)
                        have HBEL3 : Hid (Below w.heap.size w w3) := HBEL.out.trans (hk3.below (by have := HBEL.out.size; omega) (fun _ _ h => h))
                        have hsz3 := HARR3.out.lt
                        obtain ⟨hf0, hf1, hf2, hf3, hf4, hf5, hf6, hf7⟩ := HARR3.out.all
                        clear hst hblk hnil' hk3
                        go_wp2_with fail
                        refine (I.new _ oa' cap' HST3.out).mono ?_
                        rintro e w4 ⟨b, rfl, hS0, hb1, hb2, hk4⟩
                        have HS04 : Hid (I.S0 b w4.heap.size w4) := hS0
                        have HST4 : Hid (StrsAt w4 oa' len ss) := HST3.out.kept hk4 (fun _ _ h => h)
                        have HARR4 : Hid (ArrB w4 w.heap.size few) := HARR3.out.kept hk4 (fun h => h)
                        have HBEL4 : Hid (Below w.heap.size w w4) := HBEL3.out.trans (hk4.below (by have := HBEL3.out.size; omega) (fun _ _ h => h))
                        have hmk := fun w => make31 w len hl16
                        have HLB0 : Hid (0 ≤ I.l0) := I.lb0
                        have HLB1 : Hid (I.l0 ≤ 1048577) := I.lb1
                        clear hS0 hk4 hf0 hf1 hf2 hf3 hf4 hf5 hf6 hf7
                        go_wp2_with fail
                        go_loopw [19] (fun t wr => ∃ k : Nat, t = .int .i64 k ∧ k ≤ len + 9 ∧ BRow wr w4.heap.size (len + 9) k (fun i => I.h0 (pv few ss len name i)) ∧ I.S0 b w4.heap.size wr ∧ ArrB wr w.heap.size few ∧ StrsAt wr oa' len ss ∧ Below w.heap.size w wr) (fun t _ => len + 9 - (intOf t).toNat)
                        case atStart =>
                          have ka : Kept (fun _ => False) w4 (w4.alloc (.cells (Array.replicate (len + 9) (.bool false)) 4)) := (Kept.refl _ _).alloc _
                          exact ⟨0, rfl, Nat.zero_le _, BRow.made w4 (len + 9) _, I.kept0 _ _ _ _ _ HS04.out ka (fun _ _ _ h => h), HARR4.out.kept ka (fun h => h), HST4.out.kept ka (fun _ _ h => h), HBEL4.out.alloc (by have := HBEL4.out.size; omega) _⟩
                        case round =>
                          obtain ⟨k5, rfl, hk5, hrow, hs0, harr, hstr, hbel⟩ := hrel
                          have HROW : Hid (BRow wr w4.heap.size (len + 9) k5 (fun i => I.h0 (pv few ss len name i))) := hrow
                          have HS0 : Hid (I.S0 b w4.heap.size wr) := hs0
                          have HARR5 : Hid (ArrB wr w.heap.size few) := harr
                          have HSTR5 : Hid (StrsAt wr oa' len ss) := hstr
                          have HBEL5 : Hid (Below w.heap.size w wr) := hbel
                          clear hrow hs0 harr hstr hbel
                          by_cases hlt5 : k5 < len + 9
                          · obtain ⟨hf0, hf1, hf2, hf3, hf4, hf5, hf6, hf7⟩ := HARR5.out.all
                            go_wp2_with fail
                            refine (probe19 _ few ss oa' len cap' name k5 HSTR5.out hl20 (by omega)).mono ?_
                            rintro e w6 ⟨rfl, hk6⟩
                            have HK6 : Hid (Kept (fun _ => False) wr w6) := hk6
                            clear hk6 hf0 hf1 hf2 hf3 hf4 hf5 hf6 hf7
                            go_wp2_with fail
                            refine (I.has0 b w4.heap.size _ (pv few ss len name k5) (I.kept0 _ _ _ _ _ HS0.out HK6.out (fun _ _ _ h => h)) (pv_small few ss len name k5 HFW.out HS.out HX.out)).mono ?_
                            rintro e w7 ⟨rfl, m7, hm7⟩
                            have HK7 : Hid (Kept (fun _ => False) wr w7) := by rw [hm7]; exact HK6.out.drewN m7
                            have HROW7 : Hid (BRow w7 w4.heap.size (len + 9) k5 (fun i => I.h0 (pv few ss len name i))) := HROW.out.kept HK7.out (fun h => h)
                            obtain ⟨s0, hc0⟩ := HROW7.out.cell hlt5
                            have hfz := HROW7.out.free k5
                            have hlt5' : (k5 : Int) < (len : Int) + 9 := by omega
                            clear hm7
                            go_wp2_with fail
                            go_roundw
                            case rel =>
                              have kk : Kept (· = w4.heap.size) wr (w7.setCell ⟨w4.heap.size, k5, none⟩ (.bool (I.h0 (pv few ss len name k5)))) := (HK7.out.mono (T := (· = w4.heap.size)) (fun _ _ h => h.elim)).setNew (p := ⟨w4.heap.size, k5, none⟩) (fun _ => rfl) _
                              exact ⟨k5 + 1, by go_num, by omega, HROW7.out.set hlt5, I.kept0 _ _ _ _ _ HS0.out kk (fun i _ hi h => by omega), HARR5.out.kept kk (fun h => by omega), HSTR5.out.kept' kk (fun a ha hl h => by have := HBL3.out a ha hl; omega), HBEL5.out.trans (kk.below (by have := HBEL5.out.size; omega) (fun i hi h => by omega))⟩
                            case measure => simp [intOf]; omega
                          · have e5 : k5 = len + 9 := by omega
                            subst e5
                            have hcl : wr.cell? ⟨w4.heap.size, 8 + len, none⟩ = some (.bool (I.h0 name)) := by
                              have := HROW.out.get (i := 8 + len) (by omega)
                              simp only [pv_last] at this
                              exact this
                            have hgl := HROW.out.lt
                            go_wp2_with fail
                            refine (I.len0 b w4.heap.size _ HS0.out).mono ?_
                            rintro e w6 ⟨rfl, rfl⟩
                            cases hh : I.h0 name with
                            | true =>
                              rw [hh] at hcl
                              have HH : Hid (I.h0 name = true) := hh
                              clear hh
                              go_wp2_with fail
                              refine (I.add b w4.heap.size _ HS0.out (by omega)).mono ?_
                              rintro e w7 ⟨rfl, hs1, hk7⟩
                              have HS17 : Hid (I.S1 b w7) := hs1
                              have HROW7 : Hid (BRow w7 w4.heap.size (len + 9) (len + 9) (fun i => I.h0 (pv few ss len name i))) := HROW.out.kept hk7 (fun h => by omega)
                              have HARR7 : Hid (ArrB w7 w.heap.size few) := HARR5.out.kept hk7 (fun h => by omega)
                              have HSTR7 : Hid (StrsAt w7 oa' len ss) := HSTR5.out.kept' hk7 (fun a ha hl h => by have := HBL3.out a ha hl; omega)
                              have HBEL7 : Hid (Below w.heap.size w w7) := HBEL5.out.trans (hk7.below (by have := HBEL5.out.size; omega) (fun i hi h => by omega))
                              clear hs1 hk7 hcl
                              go_wp2_with fail
                              go_loopw [22] (fun t wr => ∃ k : Nat, t = .int .i64 k ∧ k ≤ len + 9 ∧ BRow wr w4.heap.size (len + 9) (len + 9) (fun i => I.h0 (pv few ss len name i)) ∧ I.S1 b wr ∧ ArrB wr w.heap.size few ∧ StrsAt wr oa' len ss ∧ Below w.heap.size w wr) (fun t _ => len + 9 - (intOf t).toNat)
                              case atStart => exact ⟨0, rfl, Nat.zero_le _, HROW7.out, HS17.out, HARR7.out, HSTR7.out, HBEL7.out⟩
                              case round =>
                                obtain ⟨k6, rfl, hk6, hrow, hs1, harr, hstr, hbel⟩ := hrel
                                have HROW8 : Hid (BRow wr w4.heap.size (len + 9) (len + 9) (fun i => I.h0 (pv few ss len name i))) := hrow
                                have HS18 : Hid (I.S1 b wr) := hs1
                                have HARR8 : Hid (ArrB wr w.heap.size few) := harr
                                have HSTR8 : Hid (StrsAt wr oa' len ss) := hstr
                                have HBEL8 : Hid (Below w.heap.size w wr) := hbel
                                clear hrow hs1 harr hstr hbel
                                by_cases hlt6 : k6 < len + 9
                                · obtain ⟨hf0, hf1, hf2, hf3, hf4, hf5, hf6, hf7⟩ := HARR8.out.all
                                  go_wp2_with fail
                                  refine (probe19 _ few ss oa' len cap' name k6 HSTR8.out hl20 (by omega)).mono ?_
                                  rintro e w8 ⟨rfl, hk8⟩
                                  have HK8 : Hid (Kept (fun _ => False) wr w8) := hk8
                                  have HS19 : Hid (I.S1 b w8) := I.kept1 _ _ _ HS18.out hk8
                                  have hc8 : w8.cell? ⟨w4.heap.size, k6, none⟩ = some (.bool (I.h0 (pv few ss len name k6))) := (HROW8.out.kept hk8 (fun h => h)).get hlt6
                                  have hlt6' : (k6 : Int) < (len : Int) + 9 := by omega
                                  have HPV : Hid ((pv few ss len name k6).size ≤ maxLen) := pv_small few ss len name k6 HFW.out HS.out HX.out
                                  clear hk8 hf0 hf1 hf2 hf3 hf4 hf5 hf6 hf7
                                  cases hb : I.h0 (pv few ss len name k6) with
                                  | true =>
                                    rw [hb] at hc8
                                    go_wp2_with fail
                                    go_quiet ((go_at_call 18; exact Calls.quiet_of (I.has1 b _ (pv few ss len name k6) (I.kept1 _ _ _ HS19.out ((Kept.refl _ _).drewN _)) HPV.out)))
                                    go_wp2_with fail
                                    go_roundw
                                    case rel =>
                                      have kk : Kept (fun _ => False) wr (w8.drewN nq) := HK8.out.drewN nq
                                      exact ⟨k6 + 1, by go_num, by omega, HROW8.out.kept kk (fun h => h), I.kept1 _ _ _ HS18.out kk, HARR8.out.kept kk (fun h => h), HSTR8.out.kept kk (fun _ _ h => h), HBEL8.out.trans (kk.below (by have := HBEL8.out.size; omega) (fun _ _ h => h))⟩
                                    case measure => simp [intOf]; omega
                                  | false =>
                                    rw [hb] at hc8
                                    go_wp2_with fail
                                    go_quiet ((go_at_call 18; exact Calls.quiet_of (I.has1 b _ (pv few ss len name k6) (I.kept1 _ _ _ HS19.out ((Kept.refl _ _).drewN _)) HPV.out)))
                                    go_wp2_with fail
                                    go_roundw
                                    case rel =>
                                      have kk : Kept (fun _ => False) wr (w8.drewN nq) := HK8.out.drewN nq
                                      exact ⟨k6 + 1, by go_num, by omega, HROW8.out.kept kk (fun h => h), I.kept1 _ _ _ HS18.out kk, HARR8.out.kept kk (fun h => h), HSTR8.out.kept kk (fun _ _ h => h), HBEL8.out.trans (kk.below (by have := HBEL8.out.size; omega) (fun _ _ h => h))⟩
                                    case measure => simp [intOf]; omega
                                · have hlb0 := HLB0.out
                                  have hlb1 := HLB1.out
                                  have hne : (I.l1 != I.l0) = false := by rw [bne_eq_false_iff_eq, I.lens, HH.out]; rfl
                                  go_wp2_with fail
                                  refine (I.len1 b _ HS18.out).mono ?_
                                  rintro e w9 ⟨rfl, rfl⟩
                                  go_wp2_with fail
                                  have hfl := I.fields b w9 HS18.out
                                  rcases I.fin with ⟨h0, _⟩ | ⟨_, _, eo, ef, en⟩ | ⟨_, h0, _⟩ | ⟨_, h0, _⟩
                                  · cases h0
                                  · rw [ef, en, eo] at hfl
                                    refine hfl.mono ?_
                                    rintro e w11 ⟨rfl, hk11⟩
                                    have HARR11 : Hid (ArrB w11 w.heap.size few) := HARR8.out.kept hk11 (fun h => h)
                                    have HBEL11 : Hid (Below w.heap.size w w11) := HBEL8.out.trans (hk11.below (by have := HBEL8.out.size; omega) (fun _ _ h => h))
                                    have hbp := HARR11.out.lt
                                    have heq := fun w => eqIn24 w few
                                    obtain ⟨hf0, hf1, hf2, hf3, hf4, hf5, hf6, hf7⟩ := HARR11.out.all
                                    clear hfl hk11 eo ef en
                                    go_wp2_with fail
                                    go_ret
                                    exact ⟨by simp, HBEL11.out.alloc (by have := HBEL11.out.size; omega) _⟩
                                  · rw [HH.out] at h0; cases h0
                                  · rw [HH.out] at h0; cases h0
                            | false =>
                              rw [hh] at hcl
                              have HH : Hid (I.h0 name = false) := hh
                              clear hh
                              go_wp2_with fail
                              refine (I.add b w4.heap.size _ HS0.out (by omega)).mono ?_
                              rintro e w7 ⟨rfl, hs1, hk7⟩
                              have HS17 : Hid (I.S1 b w7) := hs1
                              have HROW7 : Hid (BRow w7 w4.heap.size (len + 9) (len + 9) (fun i => I.h0 (pv few ss len name i))) := HROW.out.kept hk7 (fun h => by omega)
                              have HARR7 : Hid (ArrB w7 w.heap.size few) := HARR5.out.kept hk7 (fun h => by omega)
                              have HSTR7 : Hid (StrsAt w7 oa' len ss) := HSTR5.out.kept' hk7 (fun a ha hl h => by have := HBL3.out a ha hl; omega)
                              have HBEL7 : Hid (Below w.heap.size w w7) := HBEL5.out.trans (hk7.below (by have := HBEL5.out.size; omega) (fun i hi h => by omega))
                              clear hs1 hk7 hcl
                              go_wp2_with fail
                              go_loopw [22] (fun t wr => ∃ k : Nat, t = .int .i64 k ∧ k ≤ len + 9 ∧ BRow wr w4.heap.size (len + 9) (len + 9) (fun i => I.h0 (pv few ss len name i)) ∧ I.S1 b wr ∧ ArrB wr w.heap.size few ∧ StrsAt wr oa' len ss ∧ Below w.heap.size w wr) (fun t _ => len + 9 - (intOf t).toNat)
                              case atStart => exact ⟨0, rfl, Nat.zero_le _, HROW7.out, HS17.out, HARR7.out, HSTR7.out, HBEL7.out⟩
                              case round =>
                                obtain ⟨k6, rfl, hk6, hrow, hs1, harr, hstr, hbel⟩ := hrel
                                have HROW8 : Hid (BRow wr w4.heap.size (len + 9) (len + 9) (fun i => I.h0 (pv few ss len name i))) := hrow
                                have HS18 : Hid (I.S1 b wr) := hs1
                                have HARR8 : Hid (ArrB wr w.heap.size few) := harr
                                have HSTR8 : Hid (StrsAt wr oa' len ss) := hstr
                                have HBEL8 : Hid (Below w.heap.size w wr) := hbel
                                clear hrow hs1 harr hstr hbel
                                by_cases hlt6 : k6 < len + 9
                                · obtain ⟨hf0, hf1, hf2, hf3, hf4, hf5, hf6, hf7⟩ := HARR8.out.all
                                  go_wp2_with fail
                                  refine (probe19 _ few ss oa' len cap' name k6 HSTR8.out hl20 (by omega)).mono ?_
                                  rintro e w8 ⟨rfl, hk8⟩
                                  have HK8 : Hid (Kept (fun _ => False) wr w8) := hk8
                                  have HS19 : Hid (I.S1 b w8) := I.kept1 _ _ _ HS18.out hk8
                                  have hc8 : w8.cell? ⟨w4.heap.size, k6, none⟩ = some (.bool (I.h0 (pv few ss len name k6))) := (HROW8.out.kept hk8 (fun h => h)).get hlt6
                                  have hlt6' : (k6 : Int) < (len : Int) + 9 := by omega
                                  have HPV : Hid ((pv few ss len name k6).size ≤ maxLen) := pv_small few ss len name k6 HFW.out HS.out HX.out
                                  clear hk8 hf0 hf1 hf2 hf3 hf4 hf5 hf6 hf7
                                  cases hb : I.h0 (pv few ss len name k6) with
                                  | true =>
                                    rw [hb] at hc8
                                    go_wp2_with fail
                                    go_quiet ((go_at_call 18; exact Calls.quiet_of (I.has1 b _ (pv few ss len name k6) (I.kept1 _ _ _ HS19.out ((Kept.refl _ _).drewN _)) HPV.out)))
                                    go_wp2_with fail
                                    go_roundw
                                    case rel =>
                                      have kk : Kept (fun _ => False) wr (w8.drewN nq) := HK8.out.drewN nq
                                      exact ⟨k6 + 1, by go_num, by omega, HROW8.out.kept kk (fun h => h), I.kept1 _ _ _ HS18.out kk, HARR8.out.kept kk (fun h => h), HSTR8.out.kept kk (fun _ _ h => h), HBEL8.out.trans (kk.below (by have := HBEL8.out.size; omega) (fun _ _ h => h))⟩
                                    case measure => simp [intOf]; omega
                                  | false =>
                                    rw [hb] at hc8
                                    go_wp2_with fail
                                    go_quiet ((go_at_call 18; exact Calls.quiet_of (I.has1 b _ (pv few ss len name k6) (I.kept1 _ _ _ HS19.out ((Kept.refl _ _).drewN _)) HPV.out)))
                                    go_wp2_with fail
                                    go_roundw
                                    case rel =>
                                      have kk : Kept (fun _ => False) wr (w8.drewN nq) := HK8.out.drewN nq
                                      exact ⟨k6 + 1, by go_num, by omega, HROW8.out.kept kk (fun h => h), I.kept1 _ _ _ HS18.out kk, HARR8.out.kept kk (fun h => h), HSTR8.out.kept kk (fun _ _ h => h), HBEL8.out.trans (kk.below (by have := HBEL8.out.size; omega) (fun _ _ h => h))⟩
                                    case measure => simp [intOf]; omega
                                · have hlb0 := HLB0.out
                                  have hlb1 := HLB1.out
                                  have hne : (I.l1 != I.l0 + 1) = false := by rw [bne_eq_false_iff_eq, I.lens, HH.out]; rfl
                                  go_wp2_with fail
                                  refine (I.len1 b _ HS18.out).mono ?_
                                  rintro e w9 ⟨rfl, rfl⟩
                                  go_wp2_with fail
                                  have hfl := I.fields b w9 HS18.out
                                  rcases I.fin with ⟨h0, _⟩ | ⟨_, h0, _⟩ | ⟨_, _, kn, ekn, hkn, eo, en, ef⟩ | ⟨_, _, e8, eo, ef, en⟩
                                  · cases h0
                                  · rw [HH.out] at h0; cases h0
                                  · obtain rfl : m = kn := by omega
                                    rw [ef, en, eo] at hfl
                                    refine hfl.mono ?_
                                    rintro e w11 ⟨rfl, hk11⟩
                                    have HARR11 : Hid (ArrB w11 w.heap.size few) := HARR8.out.kept hk11 (fun h => h)
                                    have HBEL11 : Hid (Below w.heap.size w w11) := HBEL8.out.trans (hk11.below (by have := HBEL8.out.size; omega) (fun _ _ h => h))
                                    have hbp := HARR11.out.lt
                                    have hkn' : (m : Int) < 8 := by omega
                                    have HAX : Hid (ArrB (w11.alloc (.cells #[.string (upd few m name 0), .string (upd few m name 1), .string (upd few m name 2), .string (upd few m name 3), .string (upd few m name 4), .string (upd few m name 5), .string (upd few m name 6), .string (upd few m name 7)] 24)) w11.heap.size (upd few m name)) := ArrB.made w11 (upd few m name)
                                    have hcx := HAX.out.cell m hkn
                                    rw [upd_same] at hcx
                                    clear hfl hk11 eo ef en ekn
                                    go_wp2_with fail
                                    have HBP : Hid (ArrB (w11.alloc (.cells #[.string (upd few m name 0), .string (upd few m name 1), .string (upd few m name 2), .string (upd few m name 3), .string (upd few m name 4), .string (upd few m name 5), .string (upd few m name 6), .string (upd few m name 7)] 24)) w.heap.size few) := HARR11.out.kept ((Kept.refl (fun _ => False) _).alloc _) (fun h => h)
                                    go_loopw [28] (fun t wr => ∃ k : Nat, t = .int .i64 k ∧ k ≤ 8 ∧ ArrB wr w11.heap.size (upd few m name) ∧ ArrB wr w.heap.size few ∧ Below w.heap.size w wr) (fun t _ => 8 - (intOf t).toNat)
                                    case atStart => exact ⟨0, rfl, by omega, HAX.out, HBP.out, HBEL11.out.alloc (by have := HBEL11.out.size; omega) _⟩
                                    case round =>
                                      clear hcx HAX HBP
                                      obtain ⟨k7, rfl, hk7, hax, hbp7, hbel⟩ := hrel
                                      have HAX : Hid (ArrB wr w11.heap.size (upd few m name)) := hax
                                      have HBP : Hid (ArrB wr w.heap.size few) := hbp7
                                      have HBEL : Hid (Below w.heap.size w wr) := hbel
                                      clear hax hbp7 hbel
                                      by_cases h78 : k7 < 8
                                      · have h78' : (k7 : Int) < 8 := by omega
                                        by_cases hkm : k7 = m
                                        · have hg : ((k7 : Int) != (m : Int)) = false := by rw [bne_eq_false_iff_eq]; omega
                                          go_wp2_with fail
                                          go_quiet (fail)
                                          go_wp2_with fail
                                          go_roundw
                                          case rel =>
                                            have kk : Kept (fun _ => False) wr (wr.drewN nq) := (Kept.refl _ _).drewN nq
                                            exact ⟨k7 + 1, by go_num, by omega, HAX.out.kept kk (fun h => h), HBP.out.kept kk (fun h => h), HBEL.out.trans (kk.below (by have := HBEL.out.size; omega) (fun _ _ h => h))⟩
                                          case measure => simp [intOf]; omega
                                        · have hg : ((k7 : Int) != (m : Int)) = true := by rw [bne_iff_ne]; omega
                                          have hx7 := HAX.out.cell k7 h78
                                          rw [upd_other few m k7 name hkm] at hx7
                                          have hc7 := HBP.out.cell k7 h78
                                          go_wp2_with fail
                                          go_quiet (fail)
                                          go_wp2_with fail
                                          go_roundw
                                          case rel =>
                                            have kk : Kept (fun _ => False) wr (wr.drewN nq) := (Kept.refl _ _).drewN nq
                                            exact ⟨k7 + 1, by go_num, by omega, HAX.out.kept kk (fun h => h), HBP.out.kept kk (fun h => h), HBEL.out.trans (kk.below (by have := HBEL.out.size; omega) (fun _ _ h => h))⟩
                                          case measure => simp [intOf]; omega
                                      · go_wp2_with fail
                                        go_ret
                                        exact ⟨rfl, HBEL.out⟩
                                  · obtain rfl : m = 8 := by omega
                                    rw [ef, en, eo] at hfl
                                    refine hfl.mono ?_
                                    rintro e w11 ⟨rfl, hk11⟩
                                    have HARR11 : Hid (ArrB w11 w.heap.size few) := HARR8.out.kept hk11 (fun h => h)
                                    have HBEL11 : Hid (Below w.heap.size w w11) := HBEL8.out.trans (hk11.below (by have := HBEL8.out.size; omega) (fun _ _ h => h))
                                    have hbp := HARR11.out.lt
                                    have heq := fun w => eqIn24 w few
                                    obtain ⟨hf0, hf1, hf2, hf3, hf4, hf5, hf6, hf7⟩ := HARR11.out.all
                                    clear hfl hk11 eo ef en e8
                                    go_wp2_with fail
                                    go_ret
                                    exact ⟨by simp, HBEL11.out.alloc (by have := HBEL11.out.size; omega) _⟩
                  · by_cases hn0 : 0 ≤ n
                    · go_wp2
                      go_ret
                      exact ⟨rfl, HBEL1.out⟩
                    · go_wp2
                      go_ret
                      exact ⟨rfl, HBEL1.out⟩
              · go_wp2
                go_ret
                exact ⟨rfl, HBEL1.out⟩
    · go_wp2
      go_ret
      exact ⟨rfl, HBEL1.out⟩
end Go.Proofs.Qxb6602432a
