/-
  THE WALK of the parity model, seModel.
-/
import Derived.Test.Qxb6602432aParWalks
set_option linter.unusedVariables false
namespace Go.Proofs.Qxb6602432a
open Go.RowKit

set_option maxHeartbeats 400000 in
theorem model34_a (s : ByteArray) (i E : Nat) (w : World) (hs : s.size ≤ 1048576) (hi : i < s.size) (hq : (s[i].toNat : Int) = 34) (hst : i + 3 ≤ s.size)
    (H : Hid (E = i + 3 + Se.scan 34 3 false ((Se.bs s).drop (i + 3)))) (h2 : i + 2 < s.size) (c1 : ((s[i + 1].toNat : Int) == 34) = true) (c2 : ((s[i + 2].toNat : Int) == 34) = true) :
    Calls Try.prog 11 #[.string s, .int .i64 i] w fun e w' => e = .returned (.int .i64 E) ∧ w' = w := by
  go_enter Try.func11, Try.ntmps11
  go_wp2_with fail
  go_loop [9] (fun t => ∃ j m : Nat, t = .int .i64 j ∧ j = i + 3 + m ∧ j ≤ s.size ∧ E = j + Se.scan 34 3 (Se.oddAt (Se.bs s) (i + 3) m) ((Se.bs s).drop j)) (fun t => s.size + 2 - (intOf t).toNat)
  case atStart => exact ⟨i + 3, 0, by go_num, rfl, by omega, H.out⟩
  case round =>
    obtain ⟨j, m, rfl, hj, hjs, hE⟩ := hrel
    have HE : Hid _ := hE
    have HJ : Hid _ := hj
    have hj1 : j ≤ i + 3 + m := by omega
    have hj2 : i + 3 + m ≤ j := by omega
    clear hE H hj
    by_cases hlt : j + 3 ≤ s.size
    · have hjl : j < s.size := by omega
      cases hp : Se.pre 34 3 ((Se.bs s).drop j) with
      | false =>
        have HP : Hid _ := hp
        go_wp2_with (go_at_call 27; refine (all27 s j 3 34 _ _ _ hs hlt rfl rfl).mono ?_; rintro e w' ⟨rfl, rfl⟩)
        go_round
        case rel =>
          refine ⟨j + 1, m + 1, by go_num, by omega, by omega, ?_⟩
          have h1 := HE.out
          rw [h1, Se.scan_no 34 3 s j hjl _ (by rw [HP.out, Bool.and_false])]
          have h2 := HJ.out
          subst h2
          rw [Se.odd_flag s (i + 3) m hjl, Nat.add_assoc (i + 3) m 1]
          omega
        case measure => simp [intOf]; omega
      | true =>
        cases ho : Se.oddAt (Se.bs s) (i + 3) m with
        | true =>
          have HP : Hid _ := ho
          go_wp2_with (first | (go_at_call 27; refine (all27 s j 3 34 _ _ _ hs hlt rfl rfl).mono ?_; rintro e w' ⟨rfl, rfl⟩) | (go_at_call 28; refine (odd28 s (i + 3) m _ _ _ hs (by omega) (by omega) (by omega)).mono ?_; rintro e w' ⟨rfl, rfl⟩))
          go_round
          case rel =>
            refine ⟨j + 1, m + 1, by go_num, by omega, by omega, ?_⟩
            have h1 := HE.out
            rw [h1, Se.scan_no 34 3 s j hjl _ (by rw [HP.out, Bool.not_true, Bool.false_and])]
            have h2 := HJ.out
            subst h2
            rw [Se.odd_flag s (i + 3) m hjl, Nat.add_assoc (i + 3) m 1]
            omega
          case measure => simp [intOf]; omega
        | false =>
          have HE3 : Hid (E = j + 3 + Se.ext 34 2 ((Se.bs s).drop (j + 3))) := by show _ = _; rw [HE.out, ho]; rw [Se.scan_yes3 34 s j hp]; omega
          clear HE
          go_wp2_with (first | (go_at_call 27; refine (all27 s j 3 34 _ _ _ hs hlt rfl rfl).mono ?_; rintro e w' ⟨rfl, rfl⟩) | (go_at_call 28; refine (odd28 s (i + 3) m _ _ _ hs (by omega) (by omega) (by omega)).mono ?_; rintro e w' ⟨rfl, rfl⟩))
          go_loop [10, 11] (fun t x => ∃ k m' m'' : Nat, t = .int .i64 k ∧ x = .int .i64 m'' ∧ m'' + m' = 2 ∧ k ≤ s.size ∧ E = k + Se.ext 34 m' ((Se.bs s).drop k)) (fun t _ => s.size + 2 - (intOf t).toNat)
          case atStart => exact ⟨j + 3, 2, 0, by go_num, rfl, by omega, by omega, HE3.out⟩
          case round =>
            obtain ⟨k, m', m'', rfl, rfl, hkm, hk, hEk⟩ := hrel
            have HK : Hid (E = k + Se.ext 34 m' ((Se.bs s).drop k)) := hEk
            have hm1 : m'' + m' ≤ 2 := by omega
            have hm2 : 2 ≤ m'' + m' := by omega
            clear hEk hkm hp
            by_cases hm0 : m'' < 2
            · by_cases hks : k < s.size
              · obtain ⟨m3, rfl⟩ : ∃ m3, m' = m3 + 1 := ⟨m' - 1, by omega⟩
                have hst := Se.ext_step 34 m3 s k hks
                cases hbk : (s[k].toNat : Int) == 34 with
                | true =>
                  have hbk' : s[k] = 34 := Se.byte_yes 34 hbk rfl
                  rw [if_pos hbk'] at hst
                  have HS : Hid _ := hst
                  clear hst hbk'
                  go_wp2
                  go_round
                  case rel =>
                    have h1 := HK.out
                    have h2 := HS.out
                    exact ⟨k + 1, m3, m'' + 1, by go_num, by go_num, by omega, by omega, by omega⟩
                  case measure => simp [intOf]; omega
                | false =>
                  have hbk' : s[k] ≠ 34 := Se.byte_no 34 hbk rfl
                  rw [if_neg hbk'] at hst
                  have HS : Hid (E = k) := by show _ = _; rw [HK.out, hst]; rfl
                  clear hst hbk' HK
                  go_wp2
                  go_ret
                  exact ⟨by rw [HS.out]; rfl, rfl⟩
              · have HS : Hid (E = k) := by
                  show _ = _
                  rw [HK.out, Se.ext_end _ _ _ _ (by omega)]; rfl
                clear HK
                go_wp2
                go_ret
                exact ⟨by rw [HS.out]; rfl, rfl⟩
            · have HS : Hid (E = k) := by
                show _ = _
                have : m' = 0 := by omega
                rw [HK.out, this]; rfl
              clear HK
              go_wp2
              go_ret
              exact ⟨by rw [HS.out]; rfl, rfl⟩
    · have HS : Hid (E = s.size) := by show _ = _; rw [HE.out, Se.scan_tail _ _ _ s j hjs (by omega)]
      clear HE
      go_wp2
      go_ret
      exact ⟨by rw [HS.out]; rfl, rfl⟩

set_option maxHeartbeats 400000 in
theorem model34_b (s : ByteArray) (i E : Nat) (w : World) (hs : s.size ≤ 1048576) (hi : i < s.size) (hq : (s[i].toNat : Int) = 34) (hst : i + 1 ≤ s.size)
    (H : Hid (E = i + 1 + Se.scan 34 1 false ((Se.bs s).drop (i + 1)))) (h2 : ¬ i + 2 < s.size) :
    Calls Try.prog 11 #[.string s, .int .i64 i] w fun e w' => e = .returned (.int .i64 E) ∧ w' = w := by
  go_enter Try.func11, Try.ntmps11
  go_wp2_with fail
  go_loop [9] (fun t => ∃ j m : Nat, t = .int .i64 j ∧ j = i + 1 + m ∧ j ≤ s.size ∧ E = j + Se.scan 34 1 (Se.oddAt (Se.bs s) (i + 1) m) ((Se.bs s).drop j)) (fun t => s.size + 2 - (intOf t).toNat)
  case atStart => exact ⟨i + 1, 0, by go_num, rfl, by omega, H.out⟩
  case round =>
    obtain ⟨j, m, rfl, hj, hjs, hE⟩ := hrel
    have HE : Hid _ := hE
    have HJ : Hid _ := hj
    have hj1 : j ≤ i + 1 + m := by omega
    have hj2 : i + 1 + m ≤ j := by omega
    clear hE H hj
    by_cases hlt : j + 1 ≤ s.size
    · have hjl : j < s.size := by omega
      cases hp : Se.pre 34 1 ((Se.bs s).drop j) with
      | false =>
        have HP : Hid _ := hp
        go_wp2_with (go_at_call 27; refine (all27 s j 1 34 _ _ _ hs hlt rfl rfl).mono ?_; rintro e w' ⟨rfl, rfl⟩)
        go_round
        case rel =>
          refine ⟨j + 1, m + 1, by go_num, by omega, by omega, ?_⟩
          have h1 := HE.out
          rw [h1, Se.scan_no 34 1 s j hjl _ (by rw [HP.out, Bool.and_false])]
          have h2 := HJ.out
          subst h2
          rw [Se.odd_flag s (i + 1) m hjl, Nat.add_assoc (i + 1) m 1]
          omega
        case measure => simp [intOf]; omega
      | true =>
        cases ho : Se.oddAt (Se.bs s) (i + 1) m with
        | true =>
          have HP : Hid _ := ho
          go_wp2_with (first | (go_at_call 27; refine (all27 s j 1 34 _ _ _ hs hlt rfl rfl).mono ?_; rintro e w' ⟨rfl, rfl⟩) | (go_at_call 28; refine (odd28 s (i + 1) m _ _ _ hs (by omega) (by omega) (by omega)).mono ?_; rintro e w' ⟨rfl, rfl⟩))
          go_round
          case rel =>
            refine ⟨j + 1, m + 1, by go_num, by omega, by omega, ?_⟩
            have h1 := HE.out
            rw [h1, Se.scan_no 34 1 s j hjl _ (by rw [HP.out, Bool.not_true, Bool.false_and])]
            have h2 := HJ.out
            subst h2
            rw [Se.odd_flag s (i + 1) m hjl, Nat.add_assoc (i + 1) m 1]
            omega
          case measure => simp [intOf]; omega
        | false =>
          have HE1 : Hid (E = j + 1) := by show _ = _; rw [HE.out, ho]; rw [Se.scan_yes1 34 s j hp]
          clear HE
          go_wp2_with (first | (go_at_call 27; refine (all27 s j 1 34 _ _ _ hs hlt rfl rfl).mono ?_; rintro e w' ⟨rfl, rfl⟩) | (go_at_call 28; refine (odd28 s (i + 1) m _ _ _ hs (by omega) (by omega) (by omega)).mono ?_; rintro e w' ⟨rfl, rfl⟩))
          go_ret
          exact ⟨by rw [HE1.out]; rfl, rfl⟩
    · have HS : Hid (E = s.size) := by show _ = _; rw [HE.out, Se.scan_tail _ _ _ s j hjs (by omega)]
      clear HE
      go_wp2
      go_ret
      exact ⟨by rw [HS.out]; rfl, rfl⟩

set_option maxHeartbeats 400000 in
theorem model34_c (s : ByteArray) (i E : Nat) (w : World) (hs : s.size ≤ 1048576) (hi : i < s.size) (hq : (s[i].toNat : Int) = 34) (hst : i + 1 ≤ s.size)
    (H : Hid (E = i + 1 + Se.scan 34 1 false ((Se.bs s).drop (i + 1)))) (h2 : i + 2 < s.size) (c1 : ((s[i + 1].toNat : Int) == 34) = false) :
    Calls Try.prog 11 #[.string s, .int .i64 i] w fun e w' => e = .returned (.int .i64 E) ∧ w' = w := by
  go_enter Try.func11, Try.ntmps11
  go_wp2_with fail
  go_loop [9] (fun t => ∃ j m : Nat, t = .int .i64 j ∧ j = i + 1 + m ∧ j ≤ s.size ∧ E = j + Se.scan 34 1 (Se.oddAt (Se.bs s) (i + 1) m) ((Se.bs s).drop j)) (fun t => s.size + 2 - (intOf t).toNat)
  case atStart => exact ⟨i + 1, 0, by go_num, rfl, by omega, H.out⟩
  case round =>
    obtain ⟨j, m, rfl, hj, hjs, hE⟩ := hrel
    have HE : Hid _ := hE
    have HJ : Hid _ := hj
    have hj1 : j ≤ i + 1 + m := by omega
    have hj2 : i + 1 + m ≤ j := by omega
    clear hE H hj
    by_cases hlt : j + 1 ≤ s.size
    · have hjl : j < s.size := by omega
      cases hp : Se.pre 34 1 ((Se.bs s).drop j) with
      | false =>
        have HP : Hid _ := hp
        go_wp2_with (go_at_call 27; refine (all27 s j 1 34 _ _ _ hs hlt rfl rfl).mono ?_; rintro e w' ⟨rfl, rfl⟩)
        go_round
        case rel =>
          refine ⟨j + 1, m + 1, by go_num, by omega, by omega, ?_⟩
          have h1 := HE.out
          rw [h1, Se.scan_no 34 1 s j hjl _ (by rw [HP.out, Bool.and_false])]
          have h2 := HJ.out
          subst h2
          rw [Se.odd_flag s (i + 1) m hjl, Nat.add_assoc (i + 1) m 1]
          omega
        case measure => simp [intOf]; omega
      | true =>
        cases ho : Se.oddAt (Se.bs s) (i + 1) m with
        | true =>
          have HP : Hid _ := ho
          go_wp2_with (first | (go_at_call 27; refine (all27 s j 1 34 _ _ _ hs hlt rfl rfl).mono ?_; rintro e w' ⟨rfl, rfl⟩) | (go_at_call 28; refine (odd28 s (i + 1) m _ _ _ hs (by omega) (by omega) (by omega)).mono ?_; rintro e w' ⟨rfl, rfl⟩))
          go_round
          case rel =>
            refine ⟨j + 1, m + 1, by go_num, by omega, by omega, ?_⟩
            have h1 := HE.out
            rw [h1, Se.scan_no 34 1 s j hjl _ (by rw [HP.out, Bool.not_true, Bool.false_and])]
            have h2 := HJ.out
            subst h2
            rw [Se.odd_flag s (i + 1) m hjl, Nat.add_assoc (i + 1) m 1]
            omega
          case measure => simp [intOf]; omega
        | false =>
          have HE1 : Hid (E = j + 1) := by show _ = _; rw [HE.out, ho]; rw [Se.scan_yes1 34 s j hp]
          clear HE
          go_wp2_with (first | (go_at_call 27; refine (all27 s j 1 34 _ _ _ hs hlt rfl rfl).mono ?_; rintro e w' ⟨rfl, rfl⟩) | (go_at_call 28; refine (odd28 s (i + 1) m _ _ _ hs (by omega) (by omega) (by omega)).mono ?_; rintro e w' ⟨rfl, rfl⟩))
          go_ret
          exact ⟨by rw [HE1.out]; rfl, rfl⟩
    · have HS : Hid (E = s.size) := by show _ = _; rw [HE.out, Se.scan_tail _ _ _ s j hjs (by omega)]
      clear HE
      go_wp2
      go_ret
      exact ⟨by rw [HS.out]; rfl, rfl⟩

set_option maxHeartbeats 400000 in
theorem model34_d (s : ByteArray) (i E : Nat) (w : World) (hs : s.size ≤ 1048576) (hi : i < s.size) (hq : (s[i].toNat : Int) = 34) (hst : i + 1 ≤ s.size)
    (H : Hid (E = i + 1 + Se.scan 34 1 false ((Se.bs s).drop (i + 1)))) (h2 : i + 2 < s.size) (c1 : ((s[i + 1].toNat : Int) == 34) = true) (c2 : ((s[i + 2].toNat : Int) == 34) = false) :
    Calls Try.prog 11 #[.string s, .int .i64 i] w fun e w' => e = .returned (.int .i64 E) ∧ w' = w := by
  go_enter Try.func11, Try.ntmps11
  go_wp2_with fail
  go_loop [9] (fun t => ∃ j m : Nat, t = .int .i64 j ∧ j = i + 1 + m ∧ j ≤ s.size ∧ E = j + Se.scan 34 1 (Se.oddAt (Se.bs s) (i + 1) m) ((Se.bs s).drop j)) (fun t => s.size + 2 - (intOf t).toNat)
  case atStart => exact ⟨i + 1, 0, by go_num, rfl, by omega, H.out⟩
  case round =>
    obtain ⟨j, m, rfl, hj, hjs, hE⟩ := hrel
    have HE : Hid _ := hE
    have HJ : Hid _ := hj
    have hj1 : j ≤ i + 1 + m := by omega
    have hj2 : i + 1 + m ≤ j := by omega
    clear hE H hj
    by_cases hlt : j + 1 ≤ s.size
    · have hjl : j < s.size := by omega
      cases hp : Se.pre 34 1 ((Se.bs s).drop j) with
      | false =>
        have HP : Hid _ := hp
        go_wp2_with (go_at_call 27; refine (all27 s j 1 34 _ _ _ hs hlt rfl rfl).mono ?_; rintro e w' ⟨rfl, rfl⟩)
        go_round
        case rel =>
          refine ⟨j + 1, m + 1, by go_num, by omega, by omega, ?_⟩
          have h1 := HE.out
          rw [h1, Se.scan_no 34 1 s j hjl _ (by rw [HP.out, Bool.and_false])]
          have h2 := HJ.out
          subst h2
          rw [Se.odd_flag s (i + 1) m hjl, Nat.add_assoc (i + 1) m 1]
          omega
        case measure => simp [intOf]; omega
      | true =>
        cases ho : Se.oddAt (Se.bs s) (i + 1) m with
        | true =>
          have HP : Hid _ := ho
          go_wp2_with (first | (go_at_call 27; refine (all27 s j 1 34 _ _ _ hs hlt rfl rfl).mono ?_; rintro e w' ⟨rfl, rfl⟩) | (go_at_call 28; refine (odd28 s (i + 1) m _ _ _ hs (by omega) (by omega) (by omega)).mono ?_; rintro e w' ⟨rfl, rfl⟩))
          go_round
          case rel =>
            refine ⟨j + 1, m + 1, by go_num, by omega, by omega, ?_⟩
            have h1 := HE.out
            rw [h1, Se.scan_no 34 1 s j hjl _ (by rw [HP.out, Bool.not_true, Bool.false_and])]
            have h2 := HJ.out
            subst h2
            rw [Se.odd_flag s (i + 1) m hjl, Nat.add_assoc (i + 1) m 1]
            omega
          case measure => simp [intOf]; omega
        | false =>
          have HE1 : Hid (E = j + 1) := by show _ = _; rw [HE.out, ho]; rw [Se.scan_yes1 34 s j hp]
          clear HE
          go_wp2_with (first | (go_at_call 27; refine (all27 s j 1 34 _ _ _ hs hlt rfl rfl).mono ?_; rintro e w' ⟨rfl, rfl⟩) | (go_at_call 28; refine (odd28 s (i + 1) m _ _ _ hs (by omega) (by omega) (by omega)).mono ?_; rintro e w' ⟨rfl, rfl⟩))
          go_ret
          exact ⟨by rw [HE1.out]; rfl, rfl⟩
    · have HS : Hid (E = s.size) := by show _ = _; rw [HE.out, Se.scan_tail _ _ _ s j hjs (by omega)]
      clear HE
      go_wp2
      go_ret
      exact ⟨by rw [HS.out]; rfl, rfl⟩

set_option maxHeartbeats 400000 in
theorem model39_a (s : ByteArray) (i E : Nat) (w : World) (hs : s.size ≤ 1048576) (hi : i < s.size) (hq : (s[i].toNat : Int) = 39) (hst : i + 3 ≤ s.size)
    (H : Hid (E = i + 3 + Se.scan 39 3 false ((Se.bs s).drop (i + 3)))) (h2 : i + 2 < s.size) (c1 : ((s[i + 1].toNat : Int) == 39) = true) (c2 : ((s[i + 2].toNat : Int) == 39) = true) :
    Calls Try.prog 11 #[.string s, .int .i64 i] w fun e w' => e = .returned (.int .i64 E) ∧ w' = w := by
  go_enter Try.func11, Try.ntmps11
  go_wp2_with fail
  go_loop [9] (fun t => ∃ j m : Nat, t = .int .i64 j ∧ j = i + 3 + m ∧ j ≤ s.size ∧ E = j + Se.scan 39 3 false ((Se.bs s).drop j)) (fun t => s.size + 2 - (intOf t).toNat)
  case atStart => exact ⟨i + 3, 0, by go_num, rfl, by omega, H.out⟩
  case round =>
    obtain ⟨j, m, rfl, hj, hjs, hE⟩ := hrel
    have HE : Hid _ := hE
    have HJ : Hid _ := hj
    have hj1 : j ≤ i + 3 + m := by omega
    have hj2 : i + 3 + m ≤ j := by omega
    clear hE H hj
    by_cases hlt : j + 3 ≤ s.size
    · have hjl : j < s.size := by omega
      cases hp : Se.pre 39 3 ((Se.bs s).drop j) with
      | false =>
        have HP : Hid _ := hp
        go_wp2_with (go_at_call 27; refine (all27 s j 3 39 _ _ _ hs hlt rfl rfl).mono ?_; rintro e w' ⟨rfl, rfl⟩)
        go_round
        case rel =>
          refine ⟨j + 1, m + 1, by go_num, by omega, by omega, ?_⟩
          have h1 := HE.out
          rw [h1, Se.scan_no 39 3 s j hjl _ (by rw [HP.out, Bool.and_false])]
          have h2 := HJ.out
          subst h2
          rw [show (!false && (39 : UInt8) == 34 && s[i + 3 + m] == 92) = false from rfl]
          omega
        case measure => simp [intOf]; omega
      | true =>
        have HE3 : Hid (E = j + 3 + Se.ext 39 2 ((Se.bs s).drop (j + 3))) := by show _ = _; rw [HE.out]; rw [Se.scan_yes3 39 s j hp]; omega
        clear HE
        go_wp2_with (go_at_call 27; refine (all27 s j 3 39 _ _ _ hs hlt rfl rfl).mono ?_; rintro e w' ⟨rfl, rfl⟩)
        go_loop [10, 11] (fun t x => ∃ k m' m'' : Nat, t = .int .i64 k ∧ x = .int .i64 m'' ∧ m'' + m' = 2 ∧ k ≤ s.size ∧ E = k + Se.ext 39 m' ((Se.bs s).drop k)) (fun t _ => s.size + 2 - (intOf t).toNat)
        case atStart => exact ⟨j + 3, 2, 0, by go_num, rfl, by omega, by omega, HE3.out⟩
        case round =>
          obtain ⟨k, m', m'', rfl, rfl, hkm, hk, hEk⟩ := hrel
          have HK : Hid (E = k + Se.ext 39 m' ((Se.bs s).drop k)) := hEk
          have hm1 : m'' + m' ≤ 2 := by omega
          have hm2 : 2 ≤ m'' + m' := by omega
          clear hEk hkm hp
          by_cases hm0 : m'' < 2
          · by_cases hks : k < s.size
            · obtain ⟨m3, rfl⟩ : ∃ m3, m' = m3 + 1 := ⟨m' - 1, by omega⟩
              have hst := Se.ext_step 39 m3 s k hks
              cases hbk : (s[k].toNat : Int) == 39 with
              | true =>
                have hbk' : s[k] = 39 := Se.byte_yes 39 hbk rfl
                rw [if_pos hbk'] at hst
                have HS : Hid _ := hst
                clear hst hbk'
                go_wp2
                go_round
                case rel =>
                  have h1 := HK.out
                  have h2 := HS.out
                  exact ⟨k + 1, m3, m'' + 1, by go_num, by go_num, by omega, by omega, by omega⟩
                case measure => simp [intOf]; omega
              | false =>
                have hbk' : s[k] ≠ 39 := Se.byte_no 39 hbk rfl
                rw [if_neg hbk'] at hst
                have HS : Hid (E = k) := by show _ = _; rw [HK.out, hst]; rfl
                clear hst hbk' HK
                go_wp2
                go_ret
                exact ⟨by rw [HS.out]; rfl, rfl⟩
            · have HS : Hid (E = k) := by
                show _ = _
                rw [HK.out, Se.ext_end _ _ _ _ (by omega)]; rfl
              clear HK
              go_wp2
              go_ret
              exact ⟨by rw [HS.out]; rfl, rfl⟩
          · have HS : Hid (E = k) := by
              show _ = _
              have : m' = 0 := by omega
              rw [HK.out, this]; rfl
            clear HK
            go_wp2
            go_ret
            exact ⟨by rw [HS.out]; rfl, rfl⟩
    · have HS : Hid (E = s.size) := by show _ = _; rw [HE.out, Se.scan_tail _ _ _ s j hjs (by omega)]
      clear HE
      go_wp2
      go_ret
      exact ⟨by rw [HS.out]; rfl, rfl⟩

set_option maxHeartbeats 400000 in
theorem model39_b (s : ByteArray) (i E : Nat) (w : World) (hs : s.size ≤ 1048576) (hi : i < s.size) (hq : (s[i].toNat : Int) = 39) (hst : i + 1 ≤ s.size)
    (H : Hid (E = i + 1 + Se.scan 39 1 false ((Se.bs s).drop (i + 1)))) (h2 : ¬ i + 2 < s.size) :
    Calls Try.prog 11 #[.string s, .int .i64 i] w fun e w' => e = .returned (.int .i64 E) ∧ w' = w := by
  go_enter Try.func11, Try.ntmps11
  go_wp2_with fail
  go_loop [9] (fun t => ∃ j m : Nat, t = .int .i64 j ∧ j = i + 1 + m ∧ j ≤ s.size ∧ E = j + Se.scan 39 1 false ((Se.bs s).drop j)) (fun t => s.size + 2 - (intOf t).toNat)
  case atStart => exact ⟨i + 1, 0, by go_num, rfl, by omega, H.out⟩
  case round =>
    obtain ⟨j, m, rfl, hj, hjs, hE⟩ := hrel
    have HE : Hid _ := hE
    have HJ : Hid _ := hj
    have hj1 : j ≤ i + 1 + m := by omega
    have hj2 : i + 1 + m ≤ j := by omega
    clear hE H hj
    by_cases hlt : j + 1 ≤ s.size
    · have hjl : j < s.size := by omega
      cases hp : Se.pre 39 1 ((Se.bs s).drop j) with
      | false =>
        have HP : Hid _ := hp
        go_wp2_with (go_at_call 27; refine (all27 s j 1 39 _ _ _ hs hlt rfl rfl).mono ?_; rintro e w' ⟨rfl, rfl⟩)
        go_round
        case rel =>
          refine ⟨j + 1, m + 1, by go_num, by omega, by omega, ?_⟩
          have h1 := HE.out
          rw [h1, Se.scan_no 39 1 s j hjl _ (by rw [HP.out, Bool.and_false])]
          have h2 := HJ.out
          subst h2
          rw [show (!false && (39 : UInt8) == 34 && s[i + 1 + m] == 92) = false from rfl]
          omega
        case measure => simp [intOf]; omega
      | true =>
        have HE1 : Hid (E = j + 1) := by show _ = _; rw [HE.out]; rw [Se.scan_yes1 39 s j hp]
        clear HE
        go_wp2_with (go_at_call 27; refine (all27 s j 1 39 _ _ _ hs hlt rfl rfl).mono ?_; rintro e w' ⟨rfl, rfl⟩)
        go_ret
        exact ⟨by rw [HE1.out]; rfl, rfl⟩
    · have HS : Hid (E = s.size) := by show _ = _; rw [HE.out, Se.scan_tail _ _ _ s j hjs (by omega)]
      clear HE
      go_wp2
      go_ret
      exact ⟨by rw [HS.out]; rfl, rfl⟩

set_option maxHeartbeats 400000 in
theorem model39_c (s : ByteArray) (i E : Nat) (w : World) (hs : s.size ≤ 1048576) (hi : i < s.size) (hq : (s[i].toNat : Int) = 39) (hst : i + 1 ≤ s.size)
    (H : Hid (E = i + 1 + Se.scan 39 1 false ((Se.bs s).drop (i + 1)))) (h2 : i + 2 < s.size) (c1 : ((s[i + 1].toNat : Int) == 39) = false) :
    Calls Try.prog 11 #[.string s, .int .i64 i] w fun e w' => e = .returned (.int .i64 E) ∧ w' = w := by
  go_enter Try.func11, Try.ntmps11
  go_wp2_with fail
  go_loop [9] (fun t => ∃ j m : Nat, t = .int .i64 j ∧ j = i + 1 + m ∧ j ≤ s.size ∧ E = j + Se.scan 39 1 false ((Se.bs s).drop j)) (fun t => s.size + 2 - (intOf t).toNat)
  case atStart => exact ⟨i + 1, 0, by go_num, rfl, by omega, H.out⟩
  case round =>
    obtain ⟨j, m, rfl, hj, hjs, hE⟩ := hrel
    have HE : Hid _ := hE
    have HJ : Hid _ := hj
    have hj1 : j ≤ i + 1 + m := by omega
    have hj2 : i + 1 + m ≤ j := by omega
    clear hE H hj
    by_cases hlt : j + 1 ≤ s.size
    · have hjl : j < s.size := by omega
      cases hp : Se.pre 39 1 ((Se.bs s).drop j) with
      | false =>
        have HP : Hid _ := hp
        go_wp2_with (go_at_call 27; refine (all27 s j 1 39 _ _ _ hs hlt rfl rfl).mono ?_; rintro e w' ⟨rfl, rfl⟩)
        go_round
        case rel =>
          refine ⟨j + 1, m + 1, by go_num, by omega, by omega, ?_⟩
          have h1 := HE.out
          rw [h1, Se.scan_no 39 1 s j hjl _ (by rw [HP.out, Bool.and_false])]
          have h2 := HJ.out
          subst h2
          rw [show (!false && (39 : UInt8) == 34 && s[i + 1 + m] == 92) = false from rfl]
          omega
        case measure => simp [intOf]; omega
      | true =>
        have HE1 : Hid (E = j + 1) := by show _ = _; rw [HE.out]; rw [Se.scan_yes1 39 s j hp]
        clear HE
        go_wp2_with (go_at_call 27; refine (all27 s j 1 39 _ _ _ hs hlt rfl rfl).mono ?_; rintro e w' ⟨rfl, rfl⟩)
        go_ret
        exact ⟨by rw [HE1.out]; rfl, rfl⟩
    · have HS : Hid (E = s.size) := by show _ = _; rw [HE.out, Se.scan_tail _ _ _ s j hjs (by omega)]
      clear HE
      go_wp2
      go_ret
      exact ⟨by rw [HS.out]; rfl, rfl⟩

set_option maxHeartbeats 400000 in
theorem model39_d (s : ByteArray) (i E : Nat) (w : World) (hs : s.size ≤ 1048576) (hi : i < s.size) (hq : (s[i].toNat : Int) = 39) (hst : i + 1 ≤ s.size)
    (H : Hid (E = i + 1 + Se.scan 39 1 false ((Se.bs s).drop (i + 1)))) (h2 : i + 2 < s.size) (c1 : ((s[i + 1].toNat : Int) == 39) = true) (c2 : ((s[i + 2].toNat : Int) == 39) = false) :
    Calls Try.prog 11 #[.string s, .int .i64 i] w fun e w' => e = .returned (.int .i64 E) ∧ w' = w := by
  go_enter Try.func11, Try.ntmps11
  go_wp2_with fail
  go_loop [9] (fun t => ∃ j m : Nat, t = .int .i64 j ∧ j = i + 1 + m ∧ j ≤ s.size ∧ E = j + Se.scan 39 1 false ((Se.bs s).drop j)) (fun t => s.size + 2 - (intOf t).toNat)
  case atStart => exact ⟨i + 1, 0, by go_num, rfl, by omega, H.out⟩
  case round =>
    obtain ⟨j, m, rfl, hj, hjs, hE⟩ := hrel
    have HE : Hid _ := hE
    have HJ : Hid _ := hj
    have hj1 : j ≤ i + 1 + m := by omega
    have hj2 : i + 1 + m ≤ j := by omega
    clear hE H hj
    by_cases hlt : j + 1 ≤ s.size
    · have hjl : j < s.size := by omega
      cases hp : Se.pre 39 1 ((Se.bs s).drop j) with
      | false =>
        have HP : Hid _ := hp
        go_wp2_with (go_at_call 27; refine (all27 s j 1 39 _ _ _ hs hlt rfl rfl).mono ?_; rintro e w' ⟨rfl, rfl⟩)
        go_round
        case rel =>
          refine ⟨j + 1, m + 1, by go_num, by omega, by omega, ?_⟩
          have h1 := HE.out
          rw [h1, Se.scan_no 39 1 s j hjl _ (by rw [HP.out, Bool.and_false])]
          have h2 := HJ.out
          subst h2
          rw [show (!false && (39 : UInt8) == 34 && s[i + 1 + m] == 92) = false from rfl]
          omega
        case measure => simp [intOf]; omega
      | true =>
        have HE1 : Hid (E = j + 1) := by show _ = _; rw [HE.out]; rw [Se.scan_yes1 39 s j hp]
        clear HE
        go_wp2_with (go_at_call 27; refine (all27 s j 1 39 _ _ _ hs hlt rfl rfl).mono ?_; rintro e w' ⟨rfl, rfl⟩)
        go_ret
        exact ⟨by rw [HE1.out]; rfl, rfl⟩
    · have HS : Hid (E = s.size) := by show _ = _; rw [HE.out, Se.scan_tail _ _ _ s j hjs (by omega)]
      clear HE
      go_wp2
      go_ret
      exact ⟨by rw [HS.out]; rfl, rfl⟩

/-- seModel answers as stringEnd does -/
theorem model11 (s : ByteArray) (i : Nat) (w : World) (hs : s.size ≤ 1048576) (hi : i < s.size) (hq : s[i] = 34 ∨ s[i] = 39) :
    Calls Try.prog 11 #[.string s, .int .i64 i] w fun e w' => e = .returned (.int .i64 ((i + Se.se ((Se.bs s).drop i) : Nat) : Int)) ∧ w' = w := by
  have hse := Se.se_at s i hi
  rcases hq with hq | hq
  · have hq' : (s[i].toNat : Int) = 34 := by rw [hq]; rfl
    have h3 := Se.pre3_iff s i 34 hi hq
    rw [hq] at hse
    by_cases h2 : i + 2 < s.size
    · cases c1 : (s[i + 1].toNat : Int) == 34 with
      | true =>
        cases c2 : (s[i + 2].toNat : Int) == 34 with
        | true =>
          rw [if_pos (h3.2 ⟨h2, Se.byte_yes 34 c1 rfl, Se.byte_yes 34 c2 rfl⟩)] at hse
          exact model34_a s i _ w hs hi hq' (by omega) (by rw [hse]; show _ = _; omega) h2 c1 c2
        | false =>
          rw [if_neg (fun h => Se.byte_no 34 c2 rfl (h3.1 h).2.2)] at hse
          exact model34_d s i _ w hs hi hq' (by omega) (by rw [hse]; show _ = _; omega) h2 c1 c2
      | false =>
        rw [if_neg (fun h => Se.byte_no 34 c1 rfl (h3.1 h).2.1)] at hse
        exact model34_c s i _ w hs hi hq' (by omega) (by rw [hse]; show _ = _; omega) h2 c1
    · rw [if_neg (fun h => h2 (h3.1 h).1)] at hse
      exact model34_b s i _ w hs hi hq' (by omega) (by rw [hse]; show _ = _; omega) h2
  · have hq' : (s[i].toNat : Int) = 39 := by rw [hq]; rfl
    have h3 := Se.pre3_iff s i 39 hi hq
    rw [hq] at hse
    by_cases h2 : i + 2 < s.size
    · cases c1 : (s[i + 1].toNat : Int) == 39 with
      | true =>
        cases c2 : (s[i + 2].toNat : Int) == 39 with
        | true =>
          rw [if_pos (h3.2 ⟨h2, Se.byte_yes 39 c1 rfl, Se.byte_yes 39 c2 rfl⟩)] at hse
          exact model39_a s i _ w hs hi hq' (by omega) (by rw [hse]; show _ = _; omega) h2 c1 c2
        | false =>
          rw [if_neg (fun h => Se.byte_no 39 c2 rfl (h3.1 h).2.2)] at hse
          exact model39_d s i _ w hs hi hq' (by omega) (by rw [hse]; show _ = _; omega) h2 c1 c2
      | false =>
        rw [if_neg (fun h => Se.byte_no 39 c1 rfl (h3.1 h).2.1)] at hse
        exact model39_c s i _ w hs hi hq' (by omega) (by rw [hse]; show _ = _; omega) h2 c1
    · rw [if_neg (fun h => h2 (h3.1 h).1)] at hse
      exact model39_b s i _ w hs hi hq' (by omega) (by rw [hse]; show _ = _; omega) h2

end Go.Proofs.Qxb6602432a
