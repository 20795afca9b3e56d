/-
  THE WALK of zzBytes (function 37).
-/
import Derived.Test.Qxb6601307aInp
set_option linter.unusedVariables false
namespace Go.Proofs.Qxb6601307a
open Go.RowKit Go.Maps

set_option maxRecDepth 100000 in
set_option maxHeartbeats 4000000 in
theorem zz37 (I : Inp) (w : World) (h : I.In w) : Calls Try.prog 37 I.args w fun e w' => ZzPost w w' I e := by
  have HI : Hid (I.In w) := h
  clear h
  by_cases hm : I.m.len ≤ 1048576
  · by_cases hf : I.f.len ≤ 1048576
    · by_cases hf2 : I.m.len + I.f.len ≤ 1048576
      · by_cases hs : I.s.len ≤ 1048576
        · by_cases hs2 : I.m.len + I.f.len + I.s.len ≤ 1048576
          · go_enter Try.func37, Try.ntmps37
            go_wp2
            go_loop [13, 14] (fun z t => ∃ k zn : Nat, t = .int .i64 k ∧ k ≤ I.s.len ∧ z = .int .i64 zn ∧ zn ≤ 1048576) (fun _ t => I.s.len - (intOf t).toNat)
            case atStart => exact ⟨0, I.m.len + I.f.len + I.s.len, rfl, Nat.zero_le _, by go_num, hs2⟩
            case round =>
              obtain ⟨k, zn, rfl, hk, rfl, hzn⟩ := hrel
              by_cases hlt : k < I.s.len
              · have hi := HI.out.s.ok.i23 hlt
                have hc := HI.out.s.c1 k hlt
                by_cases h1 : (I.ms k).obj.size ≤ 1048576
                · by_cases h2 : zn + (I.ms k).obj.size ≤ 1048576
                  · go_wp2
                    go_round
                    case rel => exact ⟨k + 1, zn + (I.ms k).obj.size, by go_num, by omega, by go_num, by omega⟩
                    case measure => simp [intOf]; omega
                  · go_wp2
                    go_ret
                    exact ⟨false, rfl, rfl, fun h => by cases h⟩
                · go_wp2
                  go_ret
                  exact ⟨false, rfl, rfl, fun h => by cases h⟩
              · by_cases hr : I.r.len ≤ 1048576
                · by_cases hr2 : zn + I.r.len ≤ 1048576
                  · go_wp2
                    go_loop [13, 15] (fun z t => ∃ k zn : Nat, t = .int .i64 k ∧ k ≤ I.r.len ∧ z = .int .i64 zn ∧ zn ≤ 1048576) (fun _ t => I.r.len - (intOf t).toNat)
                    case atStart => exact ⟨0, zn + I.r.len, rfl, Nat.zero_le _, by go_num, hr2⟩
                    case round =>
                      clear hzn hk hlt hr2
                      obtain ⟨k2, zn2, rfl, hk2, rfl, hzn2⟩ := hrel
                      by_cases hlt2 : k2 < I.r.len
                      · have hi := HI.out.r.ok.i24 hlt2
                        have hc := HI.out.r.c0 k2 hlt2
                        by_cases h1 : (I.rs k2).obj.size ≤ 1048576
                        · by_cases h2 : zn2 + (I.rs k2).obj.size ≤ 1048576
                          · go_wp2
                            go_round
                            case rel => exact ⟨k2 + 1, zn2 + (I.rs k2).obj.size, by go_num, by omega, by go_num, by omega⟩
                            case measure => simp [intOf]; omega
                          · go_wp2
                            go_ret
                            exact ⟨false, rfl, rfl, fun h => by cases h⟩
                        · go_wp2
                          go_ret
                          exact ⟨false, rfl, rfl, fun h => by cases h⟩
                      · by_cases hp : I.p.len ≤ 1048576
                        · by_cases hp2 : zn2 + I.p.len ≤ 1048576
                          · go_wp2
                            go_loop [13, 16] (fun z t => ∃ k zn : Nat, t = .int .i64 k ∧ k ≤ I.p.len ∧ z = .int .i64 zn ∧ zn ≤ 1048576 ∧ ∀ i, i < k → (I.ps i).q.len ≤ 1048576 ∧ (I.ps i).a.len ≤ 1048576) (fun _ t => I.p.len - (intOf t).toNat)
                            case atStart => exact ⟨0, zn2 + I.p.len, rfl, Nat.zero_le _, by go_num, hp2, fun i hi => absurd hi (Nat.not_lt_zero _)⟩
                            case round =>
                              clear hzn2 hk2 hlt2 hp2
                              obtain ⟨k3, zn3, rfl, hk3, rfl, hzn3, hq3⟩ := hrel
                              have HQ3 : Hid (∀ i, i < k3 → (I.ps i).q.len ≤ 1048576 ∧ (I.ps i).a.len ≤ 1048576) := hq3
                              clear hq3
                              by_cases hlt3 : k3 < I.p.len
                              · have hi := HI.out.p.ok.i25 hlt3
                                have hc1 := HI.out.p.c1 k3 hlt3
                                have hc2 := HI.out.p.c2 k3 hlt3
                                by_cases hq1 : (I.ps k3).q.len ≤ 1048576
                                · by_cases hq2 : zn3 + (I.ps k3).q.len ≤ 1048576
                                  · go_wp2
                                    go_loop [13, 17] (fun z t => ∃ k zn : Nat, t = .int .i64 k ∧ k ≤ (I.ps k3).q.len ∧ z = .int .i64 zn ∧ zn ≤ 1048576) (fun _ t => (I.ps k3).q.len - (intOf t).toNat)
                                    case atStart => exact ⟨0, zn3 + (I.ps k3).q.len, rfl, Nat.zero_le _, by go_num, by omega⟩
                                    case round =>
                                      obtain ⟨k4, zn4, rfl, hk4, rfl, hzn4⟩ := hrel
                                      by_cases hltk4 : k4 < (I.ps k3).q.len
                                      · have hj := (HI.out.p.q k3 hlt3).ok.i43 hltk4
                                        have hs := (HI.out.p.q k3 hlt3).cell k4 hltk4
                                        by_cases h1 : ((I.ps k3).qs k4).size ≤ 1048576
                                        · by_cases h2 : zn4 + ((I.ps k3).qs k4).size ≤ 1048576
                                          · go_wp2
                                            go_round
                                            case rel => exact ⟨k4 + 1, zn4 + ((I.ps k3).qs k4).size, by go_num, by omega, by go_num, by omega⟩
                                            case measure => simp [intOf]; omega
                                          · go_wp2
                                            go_ret
                                            exact ⟨false, rfl, rfl, fun h => by cases h⟩
                                        · go_wp2
                                          go_ret
                                          exact ⟨false, rfl, rfl, fun h => by cases h⟩
                                      · by_cases ha1 : (I.ps k3).a.len ≤ 1048576
                                        · by_cases ha2 : zn4 + (I.ps k3).a.len ≤ 1048576
                                          · go_wp2
                                            go_loop [13, 18] (fun z t => ∃ k zn : Nat, t = .int .i64 k ∧ k ≤ (I.ps k3).a.len ∧ z = .int .i64 zn ∧ zn ≤ 1048576) (fun _ t => (I.ps k3).a.len - (intOf t).toNat)
                                            case atStart => exact ⟨0, zn4 + (I.ps k3).a.len, rfl, Nat.zero_le _, by go_num, by omega⟩
                                            case round =>
                                              obtain ⟨k5, zn5, rfl, hk5, rfl, hzn5⟩ := hrel
                                              by_cases hltk5 : k5 < (I.ps k3).a.len
                                              · have hj := (HI.out.p.a k3 hlt3).ok.i43 hltk5
                                                have hs := (HI.out.p.a k3 hlt3).cell k5 hltk5
                                                by_cases h1 : ((I.ps k3).an k5).size ≤ 1048576
                                                · by_cases h2 : zn5 + ((I.ps k3).an k5).size ≤ 1048576
                                                  · go_wp2
                                                    go_round
                                                    case rel => exact ⟨k5 + 1, zn5 + ((I.ps k3).an k5).size, by go_num, by omega, by go_num, by omega⟩
                                                    case measure => simp [intOf]; omega
                                                  · go_wp2
                                                    go_ret
                                                    exact ⟨false, rfl, rfl, fun h => by cases h⟩
                                                · go_wp2
                                                  go_ret
                                                  exact ⟨false, rfl, rfl, fun h => by cases h⟩
                                              · go_wp2
                                                go_round
                                                case rel =>
                                                  refine ⟨k3 + 1, zn5, by go_num, by omega, by go_num, by omega, ?_⟩
                                                  intro i hi
                                                  by_cases hik : i < k3
                                                  · exact HQ3.out i hik
                                                  · have : i = k3 := by omega
                                                    subst this
                                                    exact ⟨hq1, ha1⟩
                                                case measure => simp [intOf]; omega
                                          · go_wp2
                                            go_ret
                                            exact ⟨false, rfl, rfl, fun h => by cases h⟩
                                        · go_wp2
                                          go_ret
                                          exact ⟨false, rfl, rfl, fun h => by cases h⟩
                                  · go_wp2
                                    go_ret
                                    exact ⟨false, rfl, rfl, fun h => by cases h⟩
                                · go_wp2
                                  go_ret
                                  exact ⟨false, rfl, rfl, fun h => by cases h⟩
                              · by_cases hu : I.u.len ≤ 1048576
                                · by_cases hu2 : zn3 + I.u.len ≤ 1048576
                                  · go_wp2
                                    go_loop [13, 19] (fun z t => ∃ k zn : Nat, t = .int .i64 k ∧ k ≤ I.u.len ∧ z = .int .i64 zn ∧ zn ≤ 1048576) (fun _ t => I.u.len - (intOf t).toNat)
                                    case atStart => exact ⟨0, zn3 + I.u.len, rfl, Nat.zero_le _, by go_num, hu2⟩
                                    case round =>
                                      obtain ⟨k6, zn6, rfl, hk6, rfl, hzn6⟩ := hrel
                                      by_cases hlt6 : k6 < I.u.len
                                      · have hi := HI.out.u.ok.i26 hlt6
                                        have hc := HI.out.u.c1 k6 hlt6
                                        by_cases h1 : (I.us k6).obj.size ≤ 1048576
                                        · by_cases h2 : zn6 + (I.us k6).obj.size ≤ 1048576
                                          · go_wp2
                                            go_round
                                            case rel => exact ⟨k6 + 1, zn6 + (I.us k6).obj.size, by go_num, by omega, by go_num, by omega⟩
                                            case measure => simp [intOf]; omega
                                          · go_wp2
                                            go_ret
                                            exact ⟨false, rfl, rfl, fun h => by cases h⟩
                                        · go_wp2
                                          go_ret
                                          exact ⟨false, rfl, rfl, fun h => by cases h⟩
                                      · go_wp2
                                        go_ret
                                        exact ⟨true, rfl, rfl, fun _ => ⟨hm, hf, hs, hr, hp, hu, fun k hk => (HQ3.out k (by omega)).1, fun k hk => (HQ3.out k (by omega)).2⟩⟩
                                  · go_wp2
                                    go_ret
                                    exact ⟨false, rfl, rfl, fun h => by cases h⟩
                                · go_wp2
                                  go_ret
                                  exact ⟨false, rfl, rfl, fun h => by cases h⟩
                          · go_wp2
                            go_ret
                            exact ⟨false, rfl, rfl, fun h => by cases h⟩
                        · go_wp2
                          go_ret
                          exact ⟨false, rfl, rfl, fun h => by cases h⟩
                  · go_wp2
                    go_ret
                    exact ⟨false, rfl, rfl, fun h => by cases h⟩
                · go_wp2
                  go_ret
                  exact ⟨false, rfl, rfl, fun h => by cases h⟩
          · go_enter Try.func37, Try.ntmps37
            go_wp2
            go_ret
            exact ⟨false, rfl, rfl, fun h => by cases h⟩
        · go_enter Try.func37, Try.ntmps37
          go_wp2
          go_ret
          exact ⟨false, rfl, rfl, fun h => by cases h⟩
      · go_enter Try.func37, Try.ntmps37
        go_wp2
        go_ret
        exact ⟨false, rfl, rfl, fun h => by cases h⟩
    · go_enter Try.func37, Try.ntmps37
      go_wp2
      go_ret
      exact ⟨false, rfl, rfl, fun h => by cases h⟩
  · go_enter Try.func37, Try.ntmps37
    go_wp2
    go_ret
    exact ⟨false, rfl, rfl, fun h => by cases h⟩

end Go.Proofs.Qxb6601307a
