/-
  THE WALKS of zzAdd, zzAddWords, zzStringsBytes, zzPlanBytes: they return some number.
-/
import Derived.Test.Qxb6601307aInp
set_option linter.unusedVariables false
namespace Go.Proofs.Qxb6601307a
open Go.RowKit Go.Maps

/-- a small number came back; nothing has turned -/
def Num (w w' : World) (e : Ending) : Prop := ∃ z : Int, e = .returned (.int .i64 z) ∧ 0 ≤ z ∧ z ≤ 2097152 ∧ w' = w

theorem add22 (n k : Int) (w : World) (h0 : 0 ≤ n) (h1 : n ≤ 2097152) (h2 : 0 ≤ k) : Calls Try.prog 22 #[.int .i64 n, .int .i64 k] w fun e w' => Num w w' e := by
  by_cases hn : n ≤ 1048576
  · by_cases hk : k ≤ 1048576
    · go_enter Try.func22, Try.ntmps22
      go_wp2
      go_ret
      exact ⟨n + k, rfl, by omega, by omega, rfl⟩
    · go_enter Try.func22, Try.ntmps22
      go_wp2
      go_ret
      exact ⟨1048577, rfl, by omega, by omega, rfl⟩
  · go_enter Try.func22, Try.ntmps22
    go_wp2
    go_ret
    exact ⟨1048577, rfl, by omega, by omega, rfl⟩

theorem words39 (n c x : Int) (w : World) (h0 : 0 ≤ n) (h1 : n ≤ 2097152) (h2 : 0 ≤ c) (h3 : 0 ≤ x) (h4 : x ≤ 56) : Calls Try.prog 39 #[.int .i64 n, .int .i64 c, .int .i64 x] w fun e w' => Num w w' e := by
  by_cases hc : c ≤ 1048576
  · have hm0 : 0 ≤ c * x := Int.mul_nonneg h2 h3
    have hm1 : c * x ≤ 1048576 * 56 := Int.mul_le_mul hc h4 h3 (by omega)
    go_enter Try.func39, Try.ntmps39
    go_wp2_with fail
    refine (add22 n (c * x) _ h0 h1 hm0).mono ?_
    rintro e w' ⟨z, rfl, hz0, hz1, rfl⟩
    go_wp2_with fail
    go_ret
    exact ⟨z, rfl, hz0, hz1, rfl⟩
  · go_enter Try.func39, Try.ntmps39
    go_wp2
    go_ret
    exact ⟨1048577, rfl, by omega, by omega, rfl⟩

set_option maxHeartbeats 1000000 in
theorem strs40 (w : World) (x : Sl) (ss : Nat → ByteArray) (h : StrsAt w x ss) (hl : x.len ≤ 1048576) : Calls Try.prog 40 #[.slice x.oa x.len x.cap] w fun e w' => Num w w' e := by
  have H : Hid (StrsAt w x ss) := h
  clear h
  go_enter Try.func40, Try.ntmps40
  go_wp2_with fail
  refine (words39 0 x.len 16 _ (by omega) (by omega) (by omega) (by omega) (by omega)).mono ?_
  rintro e w' ⟨z, rfl, hz0, hz1, rfl⟩
  go_wp2_with fail
  go_loop [3, 10] (fun z t => ∃ (k : Nat) (y : Int), t = .int .i64 k ∧ k ≤ x.len ∧ z = .int .i64 y ∧ 0 ≤ y ∧ y ≤ 2097152) (fun _ t => x.len - (intOf t).toNat)
  case atStart => exact ⟨0, z, rfl, Nat.zero_le _, rfl, hz0, hz1⟩
  case round =>
    clear hz0 hz1
    obtain ⟨k, y, rfl, hk, rfl, hy0, hy1⟩ := hrel
    by_cases hlt : k < x.len
    · have hi := H.out.ok.i43 hlt
      have hc := H.out.cell k hlt
      by_cases hy : y ≤ 1048576
      · go_wp2_with fail
        refine (add22 y (ss k).size _ hy0 hy1 (by omega)).mono ?_
        rintro e w' ⟨z2, rfl, hz2, hz3, rfl⟩
        go_wp2_with fail
        go_round
        case rel => exact ⟨k + 1, z2, by go_num, by omega, rfl, hz2, hz3⟩
        case measure => simp [intOf]; omega
      · go_wp2
        go_ret
        exact ⟨y, rfl, hy0, hy1, rfl⟩
    · go_wp2
      go_ret
      exact ⟨y, rfl, hy0, hy1, rfl⟩

set_option maxRecDepth 100000 in
set_option maxHeartbeats 4000000 in
theorem plan9 (I : Inp) (w : World) (h : I.In w) (hs : I.Small) : Calls Try.prog 9 I.args w fun e w' => Num w w' e := by
  have HI : Hid (I.In w) := h
  have hm := hs.m
  have hf := hs.f
  have hss := hs.s
  have hr := hs.r
  have hp := hs.p
  have hu := hs.u
  have HQ : Hid (∀ k, k < I.p.len → (I.ps k).q.len ≤ 1048576) := hs.q
  have HA : Hid (∀ k, k < I.p.len → (I.ps k).a.len ≤ 1048576) := hs.a
  clear h hs
  go_enter Try.func9, Try.ntmps9
  go_wp2_with fail
  refine (words39 _ _ _ _ (by omega) (by omega) (by omega) (by omega) (by omega)).mono ?_
  rintro e w' ⟨z1, rfl, h1a, h1b, rfl⟩
  go_wp2_with fail
  refine (words39 _ _ _ _ (by omega) (by omega) (by omega) (by omega) (by omega)).mono ?_
  rintro e w' ⟨z2, rfl, h2a, h2b, rfl⟩
  go_wp2_with fail
  refine (words39 _ _ _ _ (by omega) (by omega) (by omega) (by omega) (by omega)).mono ?_
  rintro e w' ⟨z3, rfl, h3a, h3b, rfl⟩
  go_wp2_with fail
  refine (words39 _ _ _ _ (by omega) (by omega) (by omega) (by omega) (by omega)).mono ?_
  rintro e w' ⟨z4, rfl, h4a, h4b, rfl⟩
  go_wp2_with fail
  refine (words39 _ _ _ _ (by omega) (by omega) (by omega) (by omega) (by omega)).mono ?_
  rintro e w' ⟨z5, rfl, h5a, h5b, rfl⟩
  go_wp2_with fail
  refine (words39 _ _ _ _ (by omega) (by omega) (by omega) (by omega) (by omega)).mono ?_
  rintro e w' ⟨z6, rfl, h6a, h6b, rfl⟩
  by_cases hbig : z6 ≤ 1048576
  · go_wp2_with fail
    go_loop [13, 46] (fun z t => ∃ (k : Nat) (y : Int), t = .int .i64 k ∧ k ≤ I.s.len ∧ z = .int .i64 y ∧ 0 ≤ y ∧ y ≤ 2097152) (fun _ t => I.s.len - (intOf t).toNat)
    case atStart => exact ⟨0, z6, rfl, Nat.zero_le _, rfl, h6a, h6b⟩
    case round =>
      obtain ⟨k1, y1, rfl, hk1, rfl, hy1a, hy1b⟩ := hrel
      by_cases hlt : k1 < I.s.len
      · have hi := HI.out.s.ok.i23 hlt
        have hc := HI.out.s.c1 k1 hlt
        go_wp2_with fail
        refine (add22 _ _ _ (by omega) (by omega) (by omega)).mono ?_
        rintro e w' ⟨z, rfl, hza, hzb, rfl⟩
        go_wp2_with fail
        go_round
        case rel => exact ⟨k1 + 1, z, by go_num, by omega, rfl, hza, hzb⟩
        case measure => simp [intOf]; omega
      · go_wp2_with fail
        go_loop [13, 60] (fun z t => ∃ (k : Nat) (y : Int), t = .int .i64 k ∧ k ≤ I.r.len ∧ z = .int .i64 y ∧ 0 ≤ y ∧ y ≤ 2097152) (fun _ t => I.r.len - (intOf t).toNat)
        case atStart => exact ⟨0, y1, rfl, Nat.zero_le _, rfl, hy1a, hy1b⟩
        case round =>
          obtain ⟨k2, y2, rfl, hk2, rfl, hy2a, hy2b⟩ := hrel
          by_cases hlt : k2 < I.r.len
          · have hi := HI.out.r.ok.i24 hlt
            have hc := HI.out.r.c0 k2 hlt
            go_wp2_with fail
            refine (add22 _ _ _ (by omega) (by omega) (by omega)).mono ?_
            rintro e w' ⟨z, rfl, hza, hzb, rfl⟩
            go_wp2_with fail
            go_round
            case rel => exact ⟨k2 + 1, z, by go_num, by omega, rfl, hza, hzb⟩
            case measure => simp [intOf]; omega
          · go_wp2_with fail
            go_loop [13, 74] (fun z t => ∃ (k : Nat) (y : Int), t = .int .i64 k ∧ k ≤ I.u.len ∧ z = .int .i64 y ∧ 0 ≤ y ∧ y ≤ 2097152) (fun _ t => I.u.len - (intOf t).toNat)
            case atStart => exact ⟨0, y2, rfl, Nat.zero_le _, rfl, hy2a, hy2b⟩
            case round =>
              obtain ⟨k3, y3, rfl, hk3, rfl, hy3a, hy3b⟩ := hrel
              by_cases hlt : k3 < I.u.len
              · have hi := HI.out.u.ok.i26 hlt
                have hc := HI.out.u.c1 k3 hlt
                go_wp2_with fail
                refine (add22 _ _ _ (by omega) (by omega) (by omega)).mono ?_
                rintro e w' ⟨z, rfl, hza, hzb, rfl⟩
                go_wp2_with fail
                go_round
                case rel => exact ⟨k3 + 1, z, by go_num, by omega, rfl, hza, hzb⟩
                case measure => simp [intOf]; omega
              · go_wp2_with fail
                go_loop [13, 88] (fun z t => ∃ (k : Nat) (y : Int), t = .int .i64 k ∧ k ≤ I.p.len ∧ z = .int .i64 y ∧ 0 ≤ y ∧ y ≤ 2097152) (fun _ t => I.p.len - (intOf t).toNat)
                case atStart => exact ⟨0, y3, rfl, Nat.zero_le _, rfl, hy3a, hy3b⟩
                case round =>
                  obtain ⟨k4, y4, rfl, hk4, rfl, hy4a, hy4b⟩ := hrel
                  by_cases hlt : k4 < I.p.len
                  · have hi := HI.out.p.ok.i25 hlt
                    have hc1 := HI.out.p.c1 k4 hlt
                    have hc2 := HI.out.p.c2 k4 hlt
                    by_cases hy : y4 ≤ 1048576
                    · go_wp2_with fail
                      refine (strs40 _ (I.ps k4).q (I.ps k4).qs (HI.out.p.q k4 hlt) (HQ.out k4 hlt)).mono ?_
                      rintro e w' ⟨z7, rfl, h7a, h7b, rfl⟩
                      go_wp2_with fail
                      refine (add22 _ _ _ (by omega) (by omega) (by omega)).mono ?_
                      rintro e w' ⟨z8, rfl, h8a, h8b, rfl⟩
                      go_wp2_with fail
                      refine (strs40 _ (I.ps k4).a (I.ps k4).an (HI.out.p.a k4 hlt) (HA.out k4 hlt)).mono ?_
                      rintro e w' ⟨z9, rfl, h9a, h9b, rfl⟩
                      go_wp2_with fail
                      refine (add22 _ _ _ (by omega) (by omega) (by omega)).mono ?_
                      rintro e w' ⟨z10, rfl, h10a, h10b, rfl⟩
                      go_wp2_with fail
                      go_round
                      case rel => exact ⟨k4 + 1, z10, by go_num, by omega, rfl, h10a, h10b⟩
                      case measure => simp [intOf]; omega
                    · go_wp2
                      go_ret
                      exact ⟨y4, rfl, hy4a, hy4b, rfl⟩
                  · go_wp2
                    go_ret
                    exact ⟨y4, rfl, hy4a, hy4b, rfl⟩
  · go_wp2
    go_ret
    exact ⟨z6, rfl, h6a, h6b, rfl⟩

end Go.Proofs.Qxb6601307a
