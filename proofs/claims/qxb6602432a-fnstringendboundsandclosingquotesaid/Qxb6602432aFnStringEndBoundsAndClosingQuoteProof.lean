/-
  Rows.FnStringEndBoundsAndClosingQuoteSaid, proved: the frame is the shell's; the walk is ours.
-/
import Derived.Test.Qxb6602432aRows
import Derived.Test.Qxb6602432aSeWalks
import Derived.Test.Qxb6602432aSeMore
import Derived.WalkKit
import Derived.WalkSpells
import Derived.WalkLawsBesides
import Derived.ProofKit
import Derived.OpenShut
import Derived.ShutString
namespace Go.Proofs.Qxb6602432a.fnStringEndBoundsAndClosingQuote
open Go.ChangeShapes Go.WideShapes Go.ChangeAt Go.RowKit
open Go.ChangeMaps (open_string shut_string)
set_option linter.unusedVariables false      -- a walk need not use every 'w<i>' (that an integer argument fits its kind)

theorem own : ownKnob Try.prog.godebug = none := by kernel_rfl

/-! ### The callee -/
theorem zz_yes (s : ByteArray) (z : Int) (w : World) (h : s.size ≤ 1048576) :
    Calls Try.prog 12 #[.string s, .int .i64 z] w fun e w' => e = .returned (.bool true) ∧ w' = w := by
  go_enter Try.func12, Try.ntmps12
  go_wp2
  go_ret
  exact ⟨rfl, rfl⟩

theorem zz_no (s : ByteArray) (z : Int) (w : World) (h : ¬ s.size ≤ 1048576) :
    Calls Try.prog 12 #[.string s, .int .i64 z] w fun e w' => e = .returned (.bool false) ∧ w' = w := by
  go_enter Try.func12, Try.ntmps12
  go_wp2
  go_ret
  exact ⟨rfl, rfl⟩

set_option maxHeartbeats 400000 in
theorem core34_a (a0 : ByteArray) (n E : Nat) (w : World) (hs : a0.size ≤ 1048576) (hn : n < a0.size) (HQ : Hid (a0[n] = 34 ∨ a0[n] = 39)) (hq : (a0[n].toNat : Int) = 34) (HE : Hid (E = n + Se.se ((Se.bs a0).drop n))) (hE1 : n < E) (hE2 : E ≤ a0.size)
    (HC : Hid (E < a0.size → n + 2 * 3 ≤ E ∧ ∀ k (hk : k < a0.size), E - 3 ≤ k → k < E → (a0[k].toNat : Int) = 34)) (h2 : n + 2 < a0.size) (c1 : ((a0[n + 1].toNat : Int) == 34) = true) (c2 : ((a0[n + 2].toNat : Int) == 34) = true) :
    Calls Try.prog 4 #[.string a0, .int .i64 n] w fun e w' => e = .returned (.bool true) ∧ Grown w w' := by
  by_cases hlt : E < a0.size
  · obtain ⟨hc1, hc2⟩ := HC.out hlt
    have HC2 : Hid _ := hc2
    clear hc2
    go_enter Try.func4, Try.ntmps4
    go_wp2_with (go_at_call 12; refine (zz_yes _ _ _ hs).mono ?_; rintro e w' ⟨rfl, rfl⟩)
    refine (se10 a0 n E n _ rfl hs hn HQ.out HE.out).mono ?_
    rintro e w' ⟨rfl, rfl⟩
    go_wp2_with fail
    go_loop [9] (fun t => ∃ k : Nat, t = .int .i64 k ∧ E - 3 ≤ k ∧ k ≤ E) (fun t => E - (intOf t).toNat)
    case atStart => exact ⟨E - 3, by go_num, by omega, by omega⟩
    case round =>
      obtain ⟨k, rfl, hk1, hk2⟩ := hrel
      by_cases hk : k < E
      · have hk3 : k < a0.size := by omega
        have hkq := HC2.out k hk3 hk1 hk
        go_wp2
        go_round
        case rel => exact ⟨k + 1, by go_num, by omega, by omega⟩
        case measure => simp [intOf]; omega
      · go_wp2
        go_ret
        exact ⟨rfl, Grown.refl _⟩
  · have he : ((E : Int) == (a0.size : Int)) = true := by rw [beq_iff_eq]; omega
    clear HC
    go_enter Try.func4, Try.ntmps4
    go_wp2_with (go_at_call 12; refine (zz_yes _ _ _ hs).mono ?_; rintro e w' ⟨rfl, rfl⟩)
    refine (se10 a0 n E n _ rfl hs hn HQ.out HE.out).mono ?_
    rintro e w' ⟨rfl, rfl⟩
    go_wp2_with fail
    go_ret
    exact ⟨rfl, Grown.refl _⟩

set_option maxHeartbeats 400000 in
theorem core34_b (a0 : ByteArray) (n E : Nat) (w : World) (hs : a0.size ≤ 1048576) (hn : n < a0.size) (HQ : Hid (a0[n] = 34 ∨ a0[n] = 39)) (hq : (a0[n].toNat : Int) = 34) (HE : Hid (E = n + Se.se ((Se.bs a0).drop n))) (hE1 : n < E) (hE2 : E ≤ a0.size)
    (HC : Hid (E < a0.size → n + 2 * 1 ≤ E ∧ ∀ k (hk : k < a0.size), E - 1 ≤ k → k < E → (a0[k].toNat : Int) = 34)) (h2 : ¬ n + 2 < a0.size) :
    Calls Try.prog 4 #[.string a0, .int .i64 n] w fun e w' => e = .returned (.bool true) ∧ Grown w w' := by
  by_cases hlt : E < a0.size
  · obtain ⟨hc1, _⟩ := HC.out hlt
    exact absurd hlt (by omega)
  · have he : ((E : Int) == (a0.size : Int)) = true := by rw [beq_iff_eq]; omega
    clear HC
    go_enter Try.func4, Try.ntmps4
    go_wp2_with (go_at_call 12; refine (zz_yes _ _ _ hs).mono ?_; rintro e w' ⟨rfl, rfl⟩)
    refine (se10 a0 n E n _ rfl hs hn HQ.out HE.out).mono ?_
    rintro e w' ⟨rfl, rfl⟩
    go_wp2_with fail
    go_ret
    exact ⟨rfl, Grown.refl _⟩

set_option maxHeartbeats 400000 in
theorem core34_c (a0 : ByteArray) (n E : Nat) (w : World) (hs : a0.size ≤ 1048576) (hn : n < a0.size) (HQ : Hid (a0[n] = 34 ∨ a0[n] = 39)) (hq : (a0[n].toNat : Int) = 34) (HE : Hid (E = n + Se.se ((Se.bs a0).drop n))) (hE1 : n < E) (hE2 : E ≤ a0.size)
    (HC : Hid (E < a0.size → n + 2 * 1 ≤ E ∧ ∀ k (hk : k < a0.size), E - 1 ≤ k → k < E → (a0[k].toNat : Int) = 34)) (h2 : n + 2 < a0.size) (c1 : ((a0[n + 1].toNat : Int) == 34) = false) :
    Calls Try.prog 4 #[.string a0, .int .i64 n] w fun e w' => e = .returned (.bool true) ∧ Grown w w' := by
  by_cases hlt : E < a0.size
  · obtain ⟨hc1, hc2⟩ := HC.out hlt
    have HC2 : Hid _ := hc2
    clear hc2
    go_enter Try.func4, Try.ntmps4
    go_wp2_with (go_at_call 12; refine (zz_yes _ _ _ hs).mono ?_; rintro e w' ⟨rfl, rfl⟩)
    refine (se10 a0 n E n _ rfl hs hn HQ.out HE.out).mono ?_
    rintro e w' ⟨rfl, rfl⟩
    go_wp2_with fail
    go_loop [9] (fun t => ∃ k : Nat, t = .int .i64 k ∧ E - 1 ≤ k ∧ k ≤ E) (fun t => E - (intOf t).toNat)
    case atStart => exact ⟨E - 1, by go_num, by omega, by omega⟩
    case round =>
      obtain ⟨k, rfl, hk1, hk2⟩ := hrel
      by_cases hk : k < E
      · have hk3 : k < a0.size := by omega
        have hkq := HC2.out k hk3 hk1 hk
        go_wp2
        go_round
        case rel => exact ⟨k + 1, by go_num, by omega, by omega⟩
        case measure => simp [intOf]; omega
      · go_wp2
        go_ret
        exact ⟨rfl, Grown.refl _⟩
  · have he : ((E : Int) == (a0.size : Int)) = true := by rw [beq_iff_eq]; omega
    clear HC
    go_enter Try.func4, Try.ntmps4
    go_wp2_with (go_at_call 12; refine (zz_yes _ _ _ hs).mono ?_; rintro e w' ⟨rfl, rfl⟩)
    refine (se10 a0 n E n _ rfl hs hn HQ.out HE.out).mono ?_
    rintro e w' ⟨rfl, rfl⟩
    go_wp2_with fail
    go_ret
    exact ⟨rfl, Grown.refl _⟩

set_option maxHeartbeats 400000 in
theorem core34_d (a0 : ByteArray) (n E : Nat) (w : World) (hs : a0.size ≤ 1048576) (hn : n < a0.size) (HQ : Hid (a0[n] = 34 ∨ a0[n] = 39)) (hq : (a0[n].toNat : Int) = 34) (HE : Hid (E = n + Se.se ((Se.bs a0).drop n))) (hE1 : n < E) (hE2 : E ≤ a0.size)
    (HC : Hid (E < a0.size → n + 2 * 1 ≤ E ∧ ∀ k (hk : k < a0.size), E - 1 ≤ k → k < E → (a0[k].toNat : Int) = 34)) (h2 : n + 2 < a0.size) (c1 : ((a0[n + 1].toNat : Int) == 34) = true) (c2 : ((a0[n + 2].toNat : Int) == 34) = false) :
    Calls Try.prog 4 #[.string a0, .int .i64 n] w fun e w' => e = .returned (.bool true) ∧ Grown w w' := by
  by_cases hlt : E < a0.size
  · obtain ⟨hc1, hc2⟩ := HC.out hlt
    have HC2 : Hid _ := hc2
    clear hc2
    go_enter Try.func4, Try.ntmps4
    go_wp2_with (go_at_call 12; refine (zz_yes _ _ _ hs).mono ?_; rintro e w' ⟨rfl, rfl⟩)
    refine (se10 a0 n E n _ rfl hs hn HQ.out HE.out).mono ?_
    rintro e w' ⟨rfl, rfl⟩
    go_wp2_with fail
    go_loop [9] (fun t => ∃ k : Nat, t = .int .i64 k ∧ E - 1 ≤ k ∧ k ≤ E) (fun t => E - (intOf t).toNat)
    case atStart => exact ⟨E - 1, by go_num, by omega, by omega⟩
    case round =>
      obtain ⟨k, rfl, hk1, hk2⟩ := hrel
      by_cases hk : k < E
      · have hk3 : k < a0.size := by omega
        have hkq := HC2.out k hk3 hk1 hk
        go_wp2
        go_round
        case rel => exact ⟨k + 1, by go_num, by omega, by omega⟩
        case measure => simp [intOf]; omega
      · go_wp2
        go_ret
        exact ⟨rfl, Grown.refl _⟩
  · have he : ((E : Int) == (a0.size : Int)) = true := by rw [beq_iff_eq]; omega
    clear HC
    go_enter Try.func4, Try.ntmps4
    go_wp2_with (go_at_call 12; refine (zz_yes _ _ _ hs).mono ?_; rintro e w' ⟨rfl, rfl⟩)
    refine (se10 a0 n E n _ rfl hs hn HQ.out HE.out).mono ?_
    rintro e w' ⟨rfl, rfl⟩
    go_wp2_with fail
    go_ret
    exact ⟨rfl, Grown.refl _⟩

set_option maxHeartbeats 400000 in
theorem core39_a (a0 : ByteArray) (n E : Nat) (w : World) (hs : a0.size ≤ 1048576) (hn : n < a0.size) (HQ : Hid (a0[n] = 34 ∨ a0[n] = 39)) (hq : (a0[n].toNat : Int) = 39) (HE : Hid (E = n + Se.se ((Se.bs a0).drop n))) (hE1 : n < E) (hE2 : E ≤ a0.size)
    (HC : Hid (E < a0.size → n + 2 * 3 ≤ E ∧ ∀ k (hk : k < a0.size), E - 3 ≤ k → k < E → (a0[k].toNat : Int) = 39)) (h2 : n + 2 < a0.size) (c1 : ((a0[n + 1].toNat : Int) == 39) = true) (c2 : ((a0[n + 2].toNat : Int) == 39) = true) :
    Calls Try.prog 4 #[.string a0, .int .i64 n] w fun e w' => e = .returned (.bool true) ∧ Grown w w' := by
  by_cases hlt : E < a0.size
  · obtain ⟨hc1, hc2⟩ := HC.out hlt
    have HC2 : Hid _ := hc2
    clear hc2
    go_enter Try.func4, Try.ntmps4
    go_wp2_with (go_at_call 12; refine (zz_yes _ _ _ hs).mono ?_; rintro e w' ⟨rfl, rfl⟩)
    refine (se10 a0 n E n _ rfl hs hn HQ.out HE.out).mono ?_
    rintro e w' ⟨rfl, rfl⟩
    go_wp2_with fail
    go_loop [9] (fun t => ∃ k : Nat, t = .int .i64 k ∧ E - 3 ≤ k ∧ k ≤ E) (fun t => E - (intOf t).toNat)
    case atStart => exact ⟨E - 3, by go_num, by omega, by omega⟩
    case round =>
      obtain ⟨k, rfl, hk1, hk2⟩ := hrel
      by_cases hk : k < E
      · have hk3 : k < a0.size := by omega
        have hkq := HC2.out k hk3 hk1 hk
        go_wp2
        go_round
        case rel => exact ⟨k + 1, by go_num, by omega, by omega⟩
        case measure => simp [intOf]; omega
      · go_wp2
        go_ret
        exact ⟨rfl, Grown.refl _⟩
  · have he : ((E : Int) == (a0.size : Int)) = true := by rw [beq_iff_eq]; omega
    clear HC
    go_enter Try.func4, Try.ntmps4
    go_wp2_with (go_at_call 12; refine (zz_yes _ _ _ hs).mono ?_; rintro e w' ⟨rfl, rfl⟩)
    refine (se10 a0 n E n _ rfl hs hn HQ.out HE.out).mono ?_
    rintro e w' ⟨rfl, rfl⟩
    go_wp2_with fail
    go_ret
    exact ⟨rfl, Grown.refl _⟩

set_option maxHeartbeats 400000 in
theorem core39_b (a0 : ByteArray) (n E : Nat) (w : World) (hs : a0.size ≤ 1048576) (hn : n < a0.size) (HQ : Hid (a0[n] = 34 ∨ a0[n] = 39)) (hq : (a0[n].toNat : Int) = 39) (HE : Hid (E = n + Se.se ((Se.bs a0).drop n))) (hE1 : n < E) (hE2 : E ≤ a0.size)
    (HC : Hid (E < a0.size → n + 2 * 1 ≤ E ∧ ∀ k (hk : k < a0.size), E - 1 ≤ k → k < E → (a0[k].toNat : Int) = 39)) (h2 : ¬ n + 2 < a0.size) :
    Calls Try.prog 4 #[.string a0, .int .i64 n] w fun e w' => e = .returned (.bool true) ∧ Grown w w' := by
  by_cases hlt : E < a0.size
  · obtain ⟨hc1, _⟩ := HC.out hlt
    exact absurd hlt (by omega)
  · have he : ((E : Int) == (a0.size : Int)) = true := by rw [beq_iff_eq]; omega
    clear HC
    go_enter Try.func4, Try.ntmps4
    go_wp2_with (go_at_call 12; refine (zz_yes _ _ _ hs).mono ?_; rintro e w' ⟨rfl, rfl⟩)
    refine (se10 a0 n E n _ rfl hs hn HQ.out HE.out).mono ?_
    rintro e w' ⟨rfl, rfl⟩
    go_wp2_with fail
    go_ret
    exact ⟨rfl, Grown.refl _⟩

set_option maxHeartbeats 400000 in
theorem core39_c (a0 : ByteArray) (n E : Nat) (w : World) (hs : a0.size ≤ 1048576) (hn : n < a0.size) (HQ : Hid (a0[n] = 34 ∨ a0[n] = 39)) (hq : (a0[n].toNat : Int) = 39) (HE : Hid (E = n + Se.se ((Se.bs a0).drop n))) (hE1 : n < E) (hE2 : E ≤ a0.size)
    (HC : Hid (E < a0.size → n + 2 * 1 ≤ E ∧ ∀ k (hk : k < a0.size), E - 1 ≤ k → k < E → (a0[k].toNat : Int) = 39)) (h2 : n + 2 < a0.size) (c1 : ((a0[n + 1].toNat : Int) == 39) = false) :
    Calls Try.prog 4 #[.string a0, .int .i64 n] w fun e w' => e = .returned (.bool true) ∧ Grown w w' := by
  by_cases hlt : E < a0.size
  · obtain ⟨hc1, hc2⟩ := HC.out hlt
    have HC2 : Hid _ := hc2
    clear hc2
    go_enter Try.func4, Try.ntmps4
    go_wp2_with (go_at_call 12; refine (zz_yes _ _ _ hs).mono ?_; rintro e w' ⟨rfl, rfl⟩)
    refine (se10 a0 n E n _ rfl hs hn HQ.out HE.out).mono ?_
    rintro e w' ⟨rfl, rfl⟩
    go_wp2_with fail
    go_loop [9] (fun t => ∃ k : Nat, t = .int .i64 k ∧ E - 1 ≤ k ∧ k ≤ E) (fun t => E - (intOf t).toNat)
    case atStart => exact ⟨E - 1, by go_num, by omega, by omega⟩
    case round =>
      obtain ⟨k, rfl, hk1, hk2⟩ := hrel
      by_cases hk : k < E
      · have hk3 : k < a0.size := by omega
        have hkq := HC2.out k hk3 hk1 hk
        go_wp2
        go_round
        case rel => exact ⟨k + 1, by go_num, by omega, by omega⟩
        case measure => simp [intOf]; omega
      · go_wp2
        go_ret
        exact ⟨rfl, Grown.refl _⟩
  · have he : ((E : Int) == (a0.size : Int)) = true := by rw [beq_iff_eq]; omega
    clear HC
    go_enter Try.func4, Try.ntmps4
    go_wp2_with (go_at_call 12; refine (zz_yes _ _ _ hs).mono ?_; rintro e w' ⟨rfl, rfl⟩)
    refine (se10 a0 n E n _ rfl hs hn HQ.out HE.out).mono ?_
    rintro e w' ⟨rfl, rfl⟩
    go_wp2_with fail
    go_ret
    exact ⟨rfl, Grown.refl _⟩

set_option maxHeartbeats 400000 in
theorem core39_d (a0 : ByteArray) (n E : Nat) (w : World) (hs : a0.size ≤ 1048576) (hn : n < a0.size) (HQ : Hid (a0[n] = 34 ∨ a0[n] = 39)) (hq : (a0[n].toNat : Int) = 39) (HE : Hid (E = n + Se.se ((Se.bs a0).drop n))) (hE1 : n < E) (hE2 : E ≤ a0.size)
    (HC : Hid (E < a0.size → n + 2 * 1 ≤ E ∧ ∀ k (hk : k < a0.size), E - 1 ≤ k → k < E → (a0[k].toNat : Int) = 39)) (h2 : n + 2 < a0.size) (c1 : ((a0[n + 1].toNat : Int) == 39) = true) (c2 : ((a0[n + 2].toNat : Int) == 39) = false) :
    Calls Try.prog 4 #[.string a0, .int .i64 n] w fun e w' => e = .returned (.bool true) ∧ Grown w w' := by
  by_cases hlt : E < a0.size
  · obtain ⟨hc1, hc2⟩ := HC.out hlt
    have HC2 : Hid _ := hc2
    clear hc2
    go_enter Try.func4, Try.ntmps4
    go_wp2_with (go_at_call 12; refine (zz_yes _ _ _ hs).mono ?_; rintro e w' ⟨rfl, rfl⟩)
    refine (se10 a0 n E n _ rfl hs hn HQ.out HE.out).mono ?_
    rintro e w' ⟨rfl, rfl⟩
    go_wp2_with fail
    go_loop [9] (fun t => ∃ k : Nat, t = .int .i64 k ∧ E - 1 ≤ k ∧ k ≤ E) (fun t => E - (intOf t).toNat)
    case atStart => exact ⟨E - 1, by go_num, by omega, by omega⟩
    case round =>
      obtain ⟨k, rfl, hk1, hk2⟩ := hrel
      by_cases hk : k < E
      · have hk3 : k < a0.size := by omega
        have hkq := HC2.out k hk3 hk1 hk
        go_wp2
        go_round
        case rel => exact ⟨k + 1, by go_num, by omega, by omega⟩
        case measure => simp [intOf]; omega
      · go_wp2
        go_ret
        exact ⟨rfl, Grown.refl _⟩
  · have he : ((E : Int) == (a0.size : Int)) = true := by rw [beq_iff_eq]; omega
    clear HC
    go_enter Try.func4, Try.ntmps4
    go_wp2_with (go_at_call 12; refine (zz_yes _ _ _ hs).mono ?_; rintro e w' ⟨rfl, rfl⟩)
    refine (se10 a0 n E n _ rfl hs hn HQ.out HE.out).mono ?_
    rintro e w' ⟨rfl, rfl⟩
    go_wp2_with fail
    go_ret
    exact ⟨rfl, Grown.refl _⟩

/-! ### STEP 1: THE WALK: the Go text returns true. -/
set_option maxHeartbeats 400000 in
theorem walk (a0 : ByteArray) (a1 : Int) (w0 : a0.size ≤ maxLen) (w1 : (Lit.int .i64 a1).wf = true) (w : World) :
    Calls Try.prog 4 #[.string a0, .int .i64 a1] w fun e w' => e = .returned (.bool true) ∧ Grown w w' := by
  clear w0
  by_cases hs : a0.size ≤ 1048576
  · by_cases h0 : 0 ≤ a1
    · obtain ⟨n, rfl⟩ := Int.eq_ofNat_of_zero_le h0
      clear h0 w1
      by_cases hn : n < a0.size
      · by_cases hq : a0[n] = 34 ∨ a0[n] = 39
        · obtain ⟨E, HE⟩ : ∃ E, Hid (E = n + Se.se ((Se.bs a0).drop n)) := ⟨_, rfl⟩
          obtain ⟨hE1, hE2⟩ := Se.end_bounds a0 n E hn HE.out
          have HQ : Hid _ := hq
          rcases hq with hq | hq
          · have hq' : (a0[n].toNat : Int) = 34 := by rw [hq]; rfl
            have hC : ∀ W, (W = if Se.pre 34 3 ((Se.bs a0).drop n) = true then 3 else 1) → E < a0.size → n + 2 * W ≤ E ∧ ∀ k (hk : k < a0.size), E - W ≤ k → k < E → (a0[k].toNat : Int) = 34 :=
              fun W hW hlt => Se.close_at a0 n E W 34 hn hq HE.out hW hlt
            have h3 := Se.pre3_iff a0 n 34 hn hq
            by_cases h2 : n + 2 < a0.size
            · cases c1 : (a0[n + 1].toNat : Int) == 34 with
              | true =>
                cases c2 : (a0[n + 2].toNat : Int) == 34 with
                | true => exact core34_a a0 n E w hs hn HQ hq' HE hE1 hE2 (hC 3 (by rw [if_pos (h3.2 ⟨h2, Se.byte_yes 34 c1 rfl, Se.byte_yes 34 c2 rfl⟩)])) h2 c1 c2
                | false => exact core34_d a0 n E w hs hn HQ hq' HE hE1 hE2 (hC 1 (by rw [if_neg (fun h => Se.byte_no 34 c2 rfl (h3.1 h).2.2)])) h2 c1 c2
              | false => exact core34_c a0 n E w hs hn HQ hq' HE hE1 hE2 (hC 1 (by rw [if_neg (fun h => Se.byte_no 34 c1 rfl (h3.1 h).2.1)])) h2 c1
            · exact core34_b a0 n E w hs hn HQ hq' HE hE1 hE2 (hC 1 (by rw [if_neg (fun h => h2 (h3.1 h).1)])) h2
          · have hq' : (a0[n].toNat : Int) = 39 := by rw [hq]; rfl
            have hC : ∀ W, (W = if Se.pre 39 3 ((Se.bs a0).drop n) = true then 3 else 1) → E < a0.size → n + 2 * W ≤ E ∧ ∀ k (hk : k < a0.size), E - W ≤ k → k < E → (a0[k].toNat : Int) = 39 :=
              fun W hW hlt => Se.close_at a0 n E W 39 hn hq HE.out hW hlt
            have h3 := Se.pre3_iff a0 n 39 hn hq
            by_cases h2 : n + 2 < a0.size
            · cases c1 : (a0[n + 1].toNat : Int) == 39 with
              | true =>
                cases c2 : (a0[n + 2].toNat : Int) == 39 with
                | true => exact core39_a a0 n E w hs hn HQ hq' HE hE1 hE2 (hC 3 (by rw [if_pos (h3.2 ⟨h2, Se.byte_yes 39 c1 rfl, Se.byte_yes 39 c2 rfl⟩)])) h2 c1 c2
                | false => exact core39_d a0 n E w hs hn HQ hq' HE hE1 hE2 (hC 1 (by rw [if_neg (fun h => Se.byte_no 39 c2 rfl (h3.1 h).2.2)])) h2 c1 c2
              | false => exact core39_c a0 n E w hs hn HQ hq' HE hE1 hE2 (hC 1 (by rw [if_neg (fun h => Se.byte_no 39 c1 rfl (h3.1 h).2.1)])) h2 c1
            · exact core39_b a0 n E w hs hn HQ hq' HE hE1 hE2 (hC 1 (by rw [if_neg (fun h => h2 (h3.1 h).1)])) h2
        · have hd1 : ((a0[n].toNat : Int) != 34) = true := by
            rw [bne_iff_ne]; intro h; exact hq (.inl (Se.byte_yes 34 (beq_iff_eq.2 h) rfl))
          have hd2 : ((a0[n].toNat : Int) != 39) = true := by
            rw [bne_iff_ne]; intro h; exact hq (.inr (Se.byte_yes 39 (beq_iff_eq.2 h) rfl))
          clear hq
          go_enter Try.func4, Try.ntmps4
          go_wp2_with (go_at_call 12; refine (zz_yes _ _ _ hs).mono ?_; rintro e w' ⟨rfl, rfl⟩)
          go_ret
          exact ⟨rfl, Grown.refl _⟩
      · go_enter Try.func4, Try.ntmps4
        go_wp2_with (go_at_call 12; refine (zz_yes _ _ _ hs).mono ?_; rintro e w' ⟨rfl, rfl⟩)
        go_ret
        exact ⟨rfl, Grown.refl _⟩
    · go_enter Try.func4, Try.ntmps4
      go_wp2_with (go_at_call 12; refine (zz_yes _ _ _ hs).mono ?_; rintro e w' ⟨rfl, rfl⟩)
      go_ret
      exact ⟨rfl, Grown.refl _⟩
  · go_enter Try.func4, Try.ntmps4
    go_wp2_with (go_at_call 12; refine (zz_no _ _ _ hs).mono ?_; rintro e w' ⟨rfl, rfl⟩)
    go_ret
    exact ⟨rfl, Grown.refl _⟩

/-! ### THE ROW's STEP: WRITTEN OUT: LEAVE IT -/
set_option maxRecDepth 100000 in
theorem lifted (os : Os) (started : os.Started) (H : Type) (enc : TypeId × Value → H) :
    ReturnsInHanded {} Try.checked os 4 .any (Rows.fnStringEndBoundsAndClosingQuoteSpec.pre6 enc Try.prog Try.f4 Rows.fnStringEndBoundsAndClosingQuoteRow.domain false) (Rows.fnStringEndBoundsAndClosingQuoteSpec.post enc Try.prog Try.f4 false true false false) := by
  refine returnsInHanded_of_change (C := Try.checked) own started (by kernel_rfl) Try.func4
    (ChangeSpec.witness6 (enc := enc) (C := Try.checked) false ⟨#[], #[.string ByteArray.empty, .int .i64 0], []⟩ 8 (by kernel_rfl) (by kernel_rfl) (by kernel_rfl) (by kernel_rfl)) ?_
  intro W base args ds gs before hval0 hW hcnd _
  have hval : ∀ (j : Nat) t v, Try.f4.params[j]? = some t → args[j]? = some v → Value.okWide Try.prog W .any base t v := hval0
  have hW' := hW
  obtain ⟨p, q, hA0, hV, rfl, hfz, hnd⟩ := hW
  have hA : DataW.TrodAll enc Try.prog W 0 (fun _ => true) true Try.f4.params.toList args.toList ds p := hA0
  rw [Try.params4] at hA hval
  obtain ⟨v0, vs0, d0, ds0, p0, q0, hargs, rfl, rfl, h0, r0⟩ := trodAll_cons hA
  obtain ⟨v1, vs1, d1, ds1, p1, q1, rfl, rfl, rfl, h1, r1⟩ := trodAll_cons r0
  obtain ⟨rfl, rfl, rfl⟩ := trodAll_nil r1
  obtain rfl : args = #[v0, v1] := by cases args; simp_all
  obtain ⟨rfl, rfl⟩ := trodVars_none hV
  obtain ⟨a0, rfl, rfl, rfl, w0⟩ := open_string Try.underlying9 (hval 0 9 v0 rfl rfl) h0
  obtain ⟨a1, rfl, rfl, rfl, w1⟩ := open_int Try.underlying3 (hval 1 3 v1 rfl rfl) h1
  clear hA0 hval0
  simp only [List.append_nil] at hW'
  refine (walk a0 a1 w0 w1 W).mono fun e W' ⟨he, hg⟩ => ?_
  subst he
  exact ⟨_, rfl, post_of_same (pa := []) (pv := []) hW' (fun _ _ _ => (trodAll_cons_mk (shut_bool Try.underlying4 _) trodAll_mk0)) (fun sp _ => (trodAll_cons_mk (shut_string Try.underlying9 w0) (trodAll_cons_mk (shut_int Try.underlying3 w1) trodAll_mk0))) (fun _ _ => rfl) rfl
    (hg.frame _) hg.2.1 (ok_one (by kernel_rfl) rfl (okWide_bool_mk Try.underlying4 _))⟩

theorem over : Rows.fnStringEndBoundsAndClosingQuoteRow.holds Try.pinned (OpenSpec.ofChange Rows.fnStringEndBoundsAndClosingQuoteSpec) :=
  OpenClaim.holds_of_wide 4 Try.f4 rfl rfl rfl rfl rfl rfl rfl ⟨rfl, rfl, rfl, rfl, rfl⟩ rfl rfl rfl rfl rfl (by kernel_rfl) Try.func4 (by kernel_rfl)
    (of_decide_eq_true (by kernel_rfl)) (by unfold Func.isWrapper; first | (rw [if_pos (by decide +kernel)]; kernel_rfl) | (rw [if_neg (by decide +kernel)]; exact ⟨rfl, rfl⟩))
    (fun os started H enc _ => lifted os started H enc)

/-- ████ THE STATEMENT ████ -/
theorem proved : Rows.FnStringEndBoundsAndClosingQuoteSaid :=
  over
end Go.Proofs.Qxb6602432a.fnStringEndBoundsAndClosingQuote
