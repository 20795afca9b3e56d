/-
  THE WALKS of stringEnd and what it calls.
-/
import Derived.Test.Qxb6602432aRows
import Derived.Test.Qxb6602432aSeFacts
import Derived.WalkKit
import Derived.WalkSpells
import Derived.WalkLawsBesides
set_option linter.unusedVariables false
namespace Go.Proofs.Qxb6602432a
open Go.RowKit

set_option maxHeartbeats 400000 in
theorem hp33 (s p : ByteArray) (w : World) :
    Calls Try.prog 33 #[.string s, .string p] w fun e w' => e = .returned (.bool (Se.hpB s p)) ∧ w' = w := by
  by_cases h : p.size ≤ s.size
  · have e : Se.hpB s p = ((s.extract 0 p.size).toList == p.toList) := by simp [Se.hpB, h]
    rw [e]
    clear e
    go_enter Try.func33, Try.ntmps33
    go_wp2
    go_ret
    exact ⟨rfl, rfl⟩
  · have e : Se.hpB s p = false := by simp [Se.hpB, h]
    rw [e]
    clear e
    go_enter Try.func33, Try.ntmps33
    go_wp2
    go_ret
    exact ⟨rfl, rfl⟩

theorem hp32 (s p : ByteArray) (w : World) :
    Calls Try.prog 32 #[.string s, .string p] w fun e w' => e = .returned (.bool (Se.hpB s p)) ∧ w' = w := by
  go_enter Try.func32, Try.ntmps32
  go_wp2_with (go_at_call 33; refine (hp33 s p _).mono ?_; rintro e w' ⟨rfl, rfl⟩)
  go_ret
  exact ⟨rfl, rfl⟩

set_option maxHeartbeats 400000 in
/-- three quotes of number 34 open it -/
theorem se34_3 (s : ByteArray) (i E : Nat) (w : World) (hs : s.size ≤ 1048576) (hi : i < s.size) (hq : (s[i].toNat : Int) = 34) (hp : Se.hpB (s.extract i s.size) ⟨#[34, 34, 34]⟩ = true)
    (H3 : i + 3 ≤ s.size) (H : Hid (E = i + 3 + Se.scan 34 3 false ((Se.bs s).drop (i + 3)))) :
    Calls Try.prog 26 #[.string s, .int .i64 i] w fun e w' => e = .returned (.int .i64 E) ∧ w' = w := by
  go_enter Try.func26, Try.ntmps26
  go_wp2_with (go_at_call 32; refine (hp32 _ _ _).mono ?_; rintro e w' ⟨rfl, rfl⟩)
  go_loop [7] (fun t => ∃ j : Nat, t = .int .i64 j ∧ (j ≤ s.size ∧ E = j + Se.scan 34 3 false ((Se.bs s).drop j) ∨ j = s.size + 1 ∧ E = s.size)) (fun t => s.size + 2 - (intOf t).toNat)
  case atStart => exact ⟨i + 3, by go_num, .inl ⟨by omega, H.out⟩⟩
  case round =>
    obtain ⟨j, rfl, hj⟩ := hrel
    by_cases hlt : j < s.size
    · have HE : Hid (E = j + Se.scan 34 3 false ((Se.bs s).drop j)) := by
        rcases hj with ⟨_, h⟩ | ⟨h, _⟩
        · exact h
        · omega
      clear hj
      cases hb : (s[j].toNat : Int) == 92 with
      | true =>
        have hb' : s[j] = 92 := Se.byte_yes 92 hb rfl
        have HS : Hid _ := Se.scan_slash 3 s j hlt hb' (Se.pre_slash 3 (by omega) s j hlt hb')
        clear hb'
        go_wp2
        go_round
        case rel =>
          refine ⟨j + 2, by go_num, ?_⟩
          have h1 := HE.out
          rw [h1]
          exact HS.out
        case measure => simp [intOf]; omega
      | false =>
        have Hb : Hid (s[j] ≠ 92) := Se.byte_no 92 hb rfl
        have Hb2 : Hid ((!false && (34 : UInt8) == 34 && s[j] == 92) = false) := by
          show (!false && (34 : UInt8) == 34 && s[j] == 92) = false
          simpa using Hb.out
        cases hpj : Se.hpB (s.extract j s.size) ⟨#[34, 34, 34]⟩ with
        | false =>
          have HP : Hid (Se.pre 34 3 ((Se.bs s).drop j) = false) := by rw [← Se.hpB_pre]; exact hpj
          go_wp2_with (go_at_call 32; refine (hp32 _ _ _).mono ?_; rintro e w' ⟨rfl, rfl⟩)
          go_round
          case rel =>
            refine ⟨j + 1, by go_num, .inl ⟨by omega, ?_⟩⟩
            have h1 := HE.out
            rw [h1, Se.scan_no 34 3 s j hlt false (by rw [HP.out]; rfl), Hb2.out]
            omega
          case measure => simp [intOf]; omega
        | true =>
          have hp3 : Se.pre 34 3 ((Se.bs s).drop j) = true := by rw [← Se.hpB_pre]; exact hpj
          have hl3 : j + 3 ≤ s.size := by
            have := Se.pre_len hp3
            rw [List.length_drop, Se.bs_len] at this
            omega
          have HE3 : Hid (E = j + 3 + Se.ext 34 2 ((Se.bs s).drop (j + 3))) := by rw [HE.out, Se.scan_yes3 34 s j hp3]; show _ = _; omega
          clear hp3 HE
          go_wp2_with (go_at_call 32; refine (hp32 _ _ _).mono ?_; rintro e w' ⟨rfl, rfl⟩)
          go_loop [8] (fun t => ∃ k m : Nat, t = .int .i64 k ∧ k + m = j + 5 ∧ m ≤ 2 ∧ k ≤ s.size ∧ E = k + Se.ext 34 m ((Se.bs s).drop k)) (fun t => s.size + 2 - (intOf t).toNat)
          case atStart => exact ⟨j + 3, 2, by go_num, by omega, by omega, by omega, HE3.out⟩
          case round =>
            obtain ⟨k, m, rfl, hkm, hm, hk, hEk⟩ := hrel
            have HK : Hid (E = k + Se.ext 34 m ((Se.bs s).drop k)) := hEk
            have HM : Hid (k + m = j + 5) := hkm
            have hm1 : k + m ≤ j + 5 := by omega
            have hm2 : j + 5 ≤ k + m := by omega
            clear hEk hkm hpj hp
            by_cases hks : k < s.size
            · by_cases hm0 : k < j + 5
              · obtain ⟨m', rfl⟩ : ∃ m', m = m' + 1 := ⟨m - 1, by omega⟩
                have hst := Se.ext_step 34 m' s k hks
                cases hbk : (s[k].toNat : Int) == 34 with
                | true =>
                  have hbk' : s[k] = 34 := Se.byte_yes 34 hbk rfl
                  rw [if_pos hbk'] at hst
                  have HS : Hid _ := hst
                  clear hst hbk'
                  go_wp2
                  go_round
                  case rel =>
                    have h1 := HK.out
                    have h2 := HS.out
                    exact ⟨k + 1, m', by go_num, by omega, by omega, by omega, by omega⟩
                  case measure => simp [intOf]; omega
                | false =>
                  have hbk' : s[k] ≠ 34 := Se.byte_no 34 hbk rfl
                  rw [if_neg hbk'] at hst
                  have HS : Hid (E = k) := by show _ = _; rw [HK.out, hst]; rfl
                  clear hst hbk' HK
                  go_wp2
                  go_ret
                  exact ⟨by rw [HS.out]; rfl, rfl⟩
              · have HS : Hid (E = k) := by
                  show _ = _
                  have : m = 0 := by omega
                  rw [HK.out, this]; rfl
                clear HK
                go_wp2
                go_ret
                exact ⟨by rw [HS.out]; rfl, rfl⟩
            · have HS : Hid (E = k) := by
                show _ = _
                rw [HK.out, Se.ext_end _ _ _ _ (by omega)]; rfl
              clear HK
              go_wp2
              go_ret
              exact ⟨by rw [HS.out]; rfl, rfl⟩
    · have HE : Hid (E = s.size) := by
        show _ = _
        rcases hj with ⟨_, h⟩ | ⟨_, h⟩
        · rw [h, Se.scan_end _ _ _ _ _ (by omega)]; omega
        · exact h
      clear hj hp
      go_wp2
      go_ret
      exact ⟨by rw [HE.out]; rfl, rfl⟩

set_option maxHeartbeats 400000 in
/-- three quotes of number 39 open it -/
theorem se39_3 (s : ByteArray) (i E : Nat) (w : World) (hs : s.size ≤ 1048576) (hi : i < s.size) (hq : (s[i].toNat : Int) = 39) (hp : Se.hpB (s.extract i s.size) ⟨#[39, 39, 39]⟩ = true)
    (H3 : i + 3 ≤ s.size) (H : Hid (E = i + 3 + Se.scan 39 3 false ((Se.bs s).drop (i + 3)))) :
    Calls Try.prog 26 #[.string s, .int .i64 i] w fun e w' => e = .returned (.int .i64 E) ∧ w' = w := by
  go_enter Try.func26, Try.ntmps26
  go_wp2_with (go_at_call 32; refine (hp32 _ _ _).mono ?_; rintro e w' ⟨rfl, rfl⟩)
  go_loop [7] (fun t => ∃ j : Nat, t = .int .i64 j ∧ (j ≤ s.size ∧ E = j + Se.scan 39 3 false ((Se.bs s).drop j) ∨ j = s.size + 1 ∧ E = s.size)) (fun t => s.size + 2 - (intOf t).toNat)
  case atStart => exact ⟨i + 3, by go_num, .inl ⟨by omega, H.out⟩⟩
  case round =>
    obtain ⟨j, rfl, hj⟩ := hrel
    by_cases hlt : j < s.size
    · have HE : Hid (E = j + Se.scan 39 3 false ((Se.bs s).drop j)) := by
        rcases hj with ⟨_, h⟩ | ⟨h, _⟩
        · exact h
        · omega
      clear hj
      · have Hb2 : Hid ((!false && (39 : UInt8) == 34 && s[j] == 92) = false) := by
          show (!false && (39 : UInt8) == 34 && s[j] == 92) = false
          rfl
        cases hpj : Se.hpB (s.extract j s.size) ⟨#[39, 39, 39]⟩ with
        | false =>
          have HP : Hid (Se.pre 39 3 ((Se.bs s).drop j) = false) := by rw [← Se.hpB_pre]; exact hpj
          go_wp2_with (go_at_call 32; refine (hp32 _ _ _).mono ?_; rintro e w' ⟨rfl, rfl⟩)
          go_round
          case rel =>
            refine ⟨j + 1, by go_num, .inl ⟨by omega, ?_⟩⟩
            have h1 := HE.out
            rw [h1, Se.scan_no 39 3 s j hlt false (by rw [HP.out]; rfl), Hb2.out]
            omega
          case measure => simp [intOf]; omega
        | true =>
          have hp3 : Se.pre 39 3 ((Se.bs s).drop j) = true := by rw [← Se.hpB_pre]; exact hpj
          have hl3 : j + 3 ≤ s.size := by
            have := Se.pre_len hp3
            rw [List.length_drop, Se.bs_len] at this
            omega
          have HE3 : Hid (E = j + 3 + Se.ext 39 2 ((Se.bs s).drop (j + 3))) := by rw [HE.out, Se.scan_yes3 39 s j hp3]; show _ = _; omega
          clear hp3 HE
          go_wp2_with (go_at_call 32; refine (hp32 _ _ _).mono ?_; rintro e w' ⟨rfl, rfl⟩)
          go_loop [8] (fun t => ∃ k m : Nat, t = .int .i64 k ∧ k + m = j + 5 ∧ m ≤ 2 ∧ k ≤ s.size ∧ E = k + Se.ext 39 m ((Se.bs s).drop k)) (fun t => s.size + 2 - (intOf t).toNat)
          case atStart => exact ⟨j + 3, 2, by go_num, by omega, by omega, by omega, HE3.out⟩
          case round =>
            obtain ⟨k, m, rfl, hkm, hm, hk, hEk⟩ := hrel
            have HK : Hid (E = k + Se.ext 39 m ((Se.bs s).drop k)) := hEk
            have HM : Hid (k + m = j + 5) := hkm
            have hm1 : k + m ≤ j + 5 := by omega
            have hm2 : j + 5 ≤ k + m := by omega
            clear hEk hkm hpj hp
            by_cases hks : k < s.size
            · by_cases hm0 : k < j + 5
              · obtain ⟨m', rfl⟩ : ∃ m', m = m' + 1 := ⟨m - 1, by omega⟩
                have hst := Se.ext_step 39 m' s k hks
                cases hbk : (s[k].toNat : Int) == 39 with
                | true =>
                  have hbk' : s[k] = 39 := Se.byte_yes 39 hbk rfl
                  rw [if_pos hbk'] at hst
                  have HS : Hid _ := hst
                  clear hst hbk'
                  go_wp2
                  go_round
                  case rel =>
                    have h1 := HK.out
                    have h2 := HS.out
                    exact ⟨k + 1, m', by go_num, by omega, by omega, by omega, by omega⟩
                  case measure => simp [intOf]; omega
                | false =>
                  have hbk' : s[k] ≠ 39 := Se.byte_no 39 hbk rfl
                  rw [if_neg hbk'] at hst
                  have HS : Hid (E = k) := by show _ = _; rw [HK.out, hst]; rfl
                  clear hst hbk' HK
                  go_wp2
                  go_ret
                  exact ⟨by rw [HS.out]; rfl, rfl⟩
              · have HS : Hid (E = k) := by
                  show _ = _
                  have : m = 0 := by omega
                  rw [HK.out, this]; rfl
                clear HK
                go_wp2
                go_ret
                exact ⟨by rw [HS.out]; rfl, rfl⟩
            · have HS : Hid (E = k) := by
                show _ = _
                rw [HK.out, Se.ext_end _ _ _ _ (by omega)]; rfl
              clear HK
              go_wp2
              go_ret
              exact ⟨by rw [HS.out]; rfl, rfl⟩
    · have HE : Hid (E = s.size) := by
        show _ = _
        rcases hj with ⟨_, h⟩ | ⟨_, h⟩
        · rw [h, Se.scan_end _ _ _ _ _ (by omega)]; omega
        · exact h
      clear hj hp
      go_wp2
      go_ret
      exact ⟨by rw [HE.out]; rfl, rfl⟩

set_option maxHeartbeats 400000 in
/-- one quote of number 34 opens it -/
theorem se34_1 (s : ByteArray) (i E : Nat) (w : World) (hs : s.size ≤ 1048576) (hi : i < s.size) (hq : (s[i].toNat : Int) = 34) (hp : Se.hpB (s.extract i s.size) ⟨#[34, 34, 34]⟩ = false)
    (H : Hid (E = i + 1 + Se.scan 34 1 false ((Se.bs s).drop (i + 1)))) :
    Calls Try.prog 26 #[.string s, .int .i64 i] w fun e w' => e = .returned (.int .i64 E) ∧ w' = w := by
  go_enter Try.func26, Try.ntmps26
  go_wp2_with (go_at_call 32; refine (hp32 _ _ _).mono ?_; rintro e w' ⟨rfl, rfl⟩)
  go_loop [9] (fun t => ∃ j : Nat, t = .int .i64 j ∧ (j ≤ s.size ∧ E = j + Se.scan 34 1 false ((Se.bs s).drop j) ∨ j = s.size + 1 ∧ E = s.size)) (fun t => s.size + 2 - (intOf t).toNat)
  case atStart => exact ⟨i + 1, by go_num, .inl ⟨by omega, H.out⟩⟩
  case round =>
    obtain ⟨j, rfl, hj⟩ := hrel
    by_cases hlt : j < s.size
    · have HE : Hid (E = j + Se.scan 34 1 false ((Se.bs s).drop j)) := by
        rcases hj with ⟨_, h⟩ | ⟨h, _⟩
        · exact h
        · omega
      clear hj hp
      cases hbq : (s[j].toNat : Int) == 34 with
      | true =>
        have hb' : s[j] = 34 := Se.byte_yes 34 hbq rfl
        have HS : Hid (E = j + 1) := by
          show _ = _
          rw [HE.out, Se.scan_yes1 34 s j (by rw [Se.pre1 _ _ _ hlt, hb']; rfl)]
        clear hb' HE
        go_wp2
        go_ret
        exact ⟨by rw [HS.out]; rfl, rfl⟩
      | false =>
        have Hb : Hid (s[j] ≠ 34) := Se.byte_no 34 hbq rfl
        have HP : Hid (Se.pre 34 1 ((Se.bs s).drop j) = false) := by
          show _ = _
          rw [Se.pre1 _ _ _ hlt]; simpa using Hb.out
        cases hb : (s[j].toNat : Int) == 92 with
        | true =>
          have hb' : s[j] = 92 := Se.byte_yes 92 hb rfl
          have HS : Hid _ := Se.scan_slash 1 s j hlt hb' HP.out
          clear hb'
          go_wp2
          go_round
          case rel =>
            refine ⟨j + 2, by go_num, ?_⟩
            have h1 := HE.out
            rw [h1]
            exact HS.out
          case measure => simp [intOf]; omega
        | false =>
          have Hb3 : Hid (s[j] ≠ 92) := Se.byte_no 92 hb rfl
          have Hb2 : Hid ((!false && (34 : UInt8) == 34 && s[j] == 92) = false) := by
            show (!false && (34 : UInt8) == 34 && s[j] == 92) = false
            simpa using Hb3.out
          go_wp2
          go_round
          case rel =>
            refine ⟨j + 1, by go_num, .inl ⟨by omega, ?_⟩⟩
            have h1 := HE.out
            rw [h1, Se.scan_no 34 1 s j hlt false (by rw [HP.out]; rfl), Hb2.out]
            omega
          case measure => simp [intOf]; omega
    · have HE : Hid (E = s.size) := by
        show _ = _
        rcases hj with ⟨_, h⟩ | ⟨_, h⟩
        · rw [h, Se.scan_end _ _ _ _ _ (by omega)]; omega
        · exact h
      clear hj hp
      go_wp2
      go_ret
      exact ⟨by rw [HE.out]; rfl, rfl⟩

set_option maxHeartbeats 400000 in
/-- one quote of number 39 opens it -/
theorem se39_1 (s : ByteArray) (i E : Nat) (w : World) (hs : s.size ≤ 1048576) (hi : i < s.size) (hq : (s[i].toNat : Int) = 39) (hp : Se.hpB (s.extract i s.size) ⟨#[39, 39, 39]⟩ = false)
    (H : Hid (E = i + 1 + Se.scan 39 1 false ((Se.bs s).drop (i + 1)))) :
    Calls Try.prog 26 #[.string s, .int .i64 i] w fun e w' => e = .returned (.int .i64 E) ∧ w' = w := by
  go_enter Try.func26, Try.ntmps26
  go_wp2_with (go_at_call 32; refine (hp32 _ _ _).mono ?_; rintro e w' ⟨rfl, rfl⟩)
  go_loop [9] (fun t => ∃ j : Nat, t = .int .i64 j ∧ (j ≤ s.size ∧ E = j + Se.scan 39 1 false ((Se.bs s).drop j) ∨ j = s.size + 1 ∧ E = s.size)) (fun t => s.size + 2 - (intOf t).toNat)
  case atStart => exact ⟨i + 1, by go_num, .inl ⟨by omega, H.out⟩⟩
  case round =>
    obtain ⟨j, rfl, hj⟩ := hrel
    by_cases hlt : j < s.size
    · have HE : Hid (E = j + Se.scan 39 1 false ((Se.bs s).drop j)) := by
        rcases hj with ⟨_, h⟩ | ⟨h, _⟩
        · exact h
        · omega
      clear hj hp
      cases hbq : (s[j].toNat : Int) == 39 with
      | true =>
        have hb' : s[j] = 39 := Se.byte_yes 39 hbq rfl
        have HS : Hid (E = j + 1) := by
          show _ = _
          rw [HE.out, Se.scan_yes1 39 s j (by rw [Se.pre1 _ _ _ hlt, hb']; rfl)]
        clear hb' HE
        go_wp2
        go_ret
        exact ⟨by rw [HS.out]; rfl, rfl⟩
      | false =>
        have Hb : Hid (s[j] ≠ 39) := Se.byte_no 39 hbq rfl
        have HP : Hid (Se.pre 39 1 ((Se.bs s).drop j) = false) := by
          show _ = _
          rw [Se.pre1 _ _ _ hlt]; simpa using Hb.out
        · have Hb2 : Hid ((!false && (39 : UInt8) == 34 && s[j] == 92) = false) := by
            show (!false && (39 : UInt8) == 34 && s[j] == 92) = false
            rfl
          go_wp2
          go_round
          case rel =>
            refine ⟨j + 1, by go_num, .inl ⟨by omega, ?_⟩⟩
            have h1 := HE.out
            rw [h1, Se.scan_no 39 1 s j hlt false (by rw [HP.out]; rfl), Hb2.out]
            omega
          case measure => simp [intOf]; omega
    · have HE : Hid (E = s.size) := by
        show _ = _
        rcases hj with ⟨_, h⟩ | ⟨_, h⟩
        · rw [h, Se.scan_end _ _ _ _ _ (by omega)]; omega
        · exact h
      clear hj hp
      go_wp2
      go_ret
      exact ⟨by rw [HE.out]; rfl, rfl⟩

theorem se26 (s : ByteArray) (i : Nat) (w : World) (hs : s.size ≤ 1048576) (hi : i < s.size) (hq : s[i] = 34 ∨ s[i] = 39) :
    Calls Try.prog 26 #[.string s, .int .i64 i] w fun e w' => e = .returned (.int .i64 ((i + Se.se ((Se.bs s).drop i) : Nat) : Int)) ∧ w' = w := by
  have hse := Se.se_at s i hi
  rcases hq with hq | hq
  · have hq' : (s[i].toNat : Int) = 34 := by rw [hq]; rfl
    rw [hq] at hse
    cases hp : Se.hpB (s.extract i s.size) ⟨#[34, 34, 34]⟩ with
    | true =>
      have hp2 := hp
      rw [Se.hpB_pre] at hp2
      rw [if_pos hp2] at hse
      have hl := Se.pre_len hp2
      rw [List.length_drop, Se.bs_len] at hl
      exact se34_3 s i _ w hs hi hq' hp (by omega) (by rw [hse]; show _ = _; omega)
    | false =>
      have hp2 := hp
      rw [Se.hpB_pre] at hp2
      rw [if_neg (by rw [hp2]; decide)] at hse
      exact se34_1 s i _ w hs hi hq' hp (by rw [hse]; show _ = _; omega)
  · have hq' : (s[i].toNat : Int) = 39 := by rw [hq]; rfl
    rw [hq] at hse
    cases hp : Se.hpB (s.extract i s.size) ⟨#[39, 39, 39]⟩ with
    | true =>
      have hp2 := hp
      rw [Se.hpB_pre] at hp2
      rw [if_pos hp2] at hse
      have hl := Se.pre_len hp2
      rw [List.length_drop, Se.bs_len] at hl
      exact se39_3 s i _ w hs hi hq' hp (by omega) (by rw [hse]; show _ = _; omega)
    | false =>
      have hp2 := hp
      rw [Se.hpB_pre] at hp2
      rw [if_neg (by rw [hp2]; decide)] at hse
      exact se39_1 s i _ w hs hi hq' hp (by rw [hse]; show _ = _; omega)

/-- ZZStringEnd hands stringEnd's answer on -/
theorem se10 (s : ByteArray) (i E : Nat) (z : Int) (w : World) (hz : z = i) (hs : s.size ≤ 1048576) (hi : i < s.size) (hq : s[i] = 34 ∨ s[i] = 39) (hE : E = i + Se.se ((Se.bs s).drop i)) :
    Calls Try.prog 10 #[.string s, .int .i64 z] w fun e w' => e = .returned (.int .i64 E) ∧ w' = w := by
  subst hz
  subst hE
  go_enter Try.func10, Try.ntmps10
  go_wp2_with (go_at_call 26; refine (se26 s i _ hs hi hq).mono ?_; rintro e w' ⟨rfl, rfl⟩)
  go_ret
  exact ⟨rfl, rfl⟩

end Go.Proofs.Qxb6602432a
