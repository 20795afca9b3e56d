/-
  Rows.FnStringEndMatchesParityModelSaid, proved: the frame is the shell's; the walk is ours.
-/
import Derived.Test.Qxb6602432aRows
import Derived.Test.Qxb6602432aSeWalks
import Derived.Test.Qxb6602432aModelWalks
import Derived.WalkKit
import Derived.WalkSpells
import Derived.WalkLawsBesides
import Derived.ProofKit
import Derived.OpenShut
import Derived.ShutString
namespace Go.Proofs.Qxb6602432a.fnStringEndMatchesParityModel
open Go.ChangeShapes Go.WideShapes Go.ChangeAt Go.RowKit
open Go.ChangeMaps (open_string shut_string)
set_option linter.unusedVariables false      -- a walk need not use every 'w<i>' (that an integer argument fits its kind)

theorem own : ownKnob Try.prog.godebug = none := by kernel_rfl

/-! ### The callee -/
theorem zz_yes (s : ByteArray) (z : Int) (w : World) (h : s.size ≤ 1048576) :
    Calls Try.prog 9 #[.string s, .int .i64 z] w fun e w' => e = .returned (.bool true) ∧ w' = w := by
  go_enter Try.func9, Try.ntmps9
  go_wp2
  go_ret
  exact ⟨rfl, rfl⟩

theorem zz_no (s : ByteArray) (z : Int) (w : World) (h : ¬ s.size ≤ 1048576) :
    Calls Try.prog 9 #[.string s, .int .i64 z] w fun e w' => e = .returned (.bool false) ∧ w' = w := by
  go_enter Try.func9, Try.ntmps9
  go_wp2
  go_ret
  exact ⟨rfl, rfl⟩

/-! ### STEP 1: THE WALK: the Go text returns true. -/
set_option maxHeartbeats 400000 in
theorem walk (a0 : ByteArray) (a1 : Int) (w0 : a0.size ≤ maxLen) (w1 : (Lit.int .i64 a1).wf = true) (w : World) :
    Calls Try.prog 3 #[.string a0, .int .i64 a1] w fun e w' => e = .returned (.bool true) ∧ Grown w w' := by
  clear w0
  by_cases hs : a0.size ≤ 1048576
  · by_cases h0 : 0 ≤ a1
    · obtain ⟨n, rfl⟩ := Int.eq_ofNat_of_zero_le h0
      clear h0 w1
      by_cases hn : n < a0.size
      · by_cases hq : a0[n] = 34 ∨ a0[n] = 39
        · have HQ : Hid _ := hq
          rcases hq with hq | hq
          · have hq' : (a0[n].toNat : Int) = 34 := by rw [hq]; rfl
            clear hq
            go_enter Try.func3, Try.ntmps3
            go_wp2_with (go_at_call 9; refine (zz_yes _ _ _ hs).mono ?_; rintro e w' ⟨rfl, rfl⟩)
            refine (se10 a0 n (n + Se.se ((Se.bs a0).drop n)) n _ rfl hs hn HQ.out rfl).mono ?_
            rintro e w' ⟨rfl, rfl⟩
            go_wp2_with fail
            refine (model11 a0 n _ hs hn HQ.out).mono ?_
            rintro e w' ⟨rfl, rfl⟩
            go_wp2_with fail
            go_ret
            exact ⟨by simp, Grown.refl _⟩
          · have hq' : (a0[n].toNat : Int) = 39 := by rw [hq]; rfl
            clear hq
            go_enter Try.func3, Try.ntmps3
            go_wp2_with (go_at_call 9; refine (zz_yes _ _ _ hs).mono ?_; rintro e w' ⟨rfl, rfl⟩)
            refine (se10 a0 n (n + Se.se ((Se.bs a0).drop n)) n _ rfl hs hn HQ.out rfl).mono ?_
            rintro e w' ⟨rfl, rfl⟩
            go_wp2_with fail
            refine (model11 a0 n _ hs hn HQ.out).mono ?_
            rintro e w' ⟨rfl, rfl⟩
            go_wp2_with fail
            go_ret
            exact ⟨by simp, Grown.refl _⟩
        · have hd1 : ((a0[n].toNat : Int) != 34) = true := by
            rw [bne_iff_ne]; intro h; exact hq (.inl (Se.byte_yes 34 (beq_iff_eq.2 h) rfl))
          have hd2 : ((a0[n].toNat : Int) != 39) = true := by
            rw [bne_iff_ne]; intro h; exact hq (.inr (Se.byte_yes 39 (beq_iff_eq.2 h) rfl))
          clear hq
          go_enter Try.func3, Try.ntmps3
          go_wp2_with (go_at_call 9; refine (zz_yes _ _ _ hs).mono ?_; rintro e w' ⟨rfl, rfl⟩)
          go_ret
          exact ⟨rfl, Grown.refl _⟩
      · go_enter Try.func3, Try.ntmps3
        go_wp2_with (go_at_call 9; refine (zz_yes _ _ _ hs).mono ?_; rintro e w' ⟨rfl, rfl⟩)
        go_ret
        exact ⟨rfl, Grown.refl _⟩
    · go_enter Try.func3, Try.ntmps3
      go_wp2_with (go_at_call 9; refine (zz_yes _ _ _ hs).mono ?_; rintro e w' ⟨rfl, rfl⟩)
      go_ret
      exact ⟨rfl, Grown.refl _⟩
  · go_enter Try.func3, Try.ntmps3
    go_wp2_with (go_at_call 9; refine (zz_no _ _ _ hs).mono ?_; rintro e w' ⟨rfl, rfl⟩)
    go_ret
    exact ⟨rfl, Grown.refl _⟩

/-! ### THE ROW's STEP: WRITTEN OUT: LEAVE IT -/
set_option maxRecDepth 100000 in
theorem lifted (os : Os) (started : os.Started) (H : Type) (enc : TypeId × Value → H) :
    ReturnsInHanded {} Try.checked os 3 .any (Rows.fnStringEndMatchesParityModelSpec.pre6 enc Try.prog Try.f3 Rows.fnStringEndMatchesParityModelRow.domain false) (Rows.fnStringEndMatchesParityModelSpec.post enc Try.prog Try.f3 false true false false) := by
  refine returnsInHanded_of_change (C := Try.checked) own started (by kernel_rfl) Try.func3
    (ChangeSpec.witness6 (enc := enc) (C := Try.checked) false ⟨#[], #[.string ByteArray.empty, .int .i64 0], []⟩ 8 (by kernel_rfl) (by kernel_rfl) (by kernel_rfl) (by kernel_rfl)) ?_
  intro W base args ds gs before hval0 hW hcnd _
  have hval : ∀ (j : Nat) t v, Try.f3.params[j]? = some t → args[j]? = some v → Value.okWide Try.prog W .any base t v := hval0
  have hW' := hW
  obtain ⟨p, q, hA0, hV, rfl, hfz, hnd⟩ := hW
  have hA : DataW.TrodAll enc Try.prog W 0 (fun _ => true) true Try.f3.params.toList args.toList ds p := hA0
  rw [Try.params3] at hA hval
  obtain ⟨v0, vs0, d0, ds0, p0, q0, hargs, rfl, rfl, h0, r0⟩ := trodAll_cons hA
  obtain ⟨v1, vs1, d1, ds1, p1, q1, rfl, rfl, rfl, h1, r1⟩ := trodAll_cons r0
  obtain ⟨rfl, rfl, rfl⟩ := trodAll_nil r1
  obtain rfl : args = #[v0, v1] := by cases args; simp_all
  obtain ⟨rfl, rfl⟩ := trodVars_none hV
  obtain ⟨a0, rfl, rfl, rfl, w0⟩ := open_string Try.underlying9 (hval 0 9 v0 rfl rfl) h0
  obtain ⟨a1, rfl, rfl, rfl, w1⟩ := open_int Try.underlying3 (hval 1 3 v1 rfl rfl) h1
  clear hA0 hval0
  simp only [List.append_nil] at hW'
  refine (walk a0 a1 w0 w1 W).mono fun e W' ⟨he, hg⟩ => ?_
  subst he
  exact ⟨_, rfl, post_of_same (pa := []) (pv := []) hW' (fun _ _ _ => (trodAll_cons_mk (shut_bool Try.underlying4 _) trodAll_mk0)) (fun sp _ => (trodAll_cons_mk (shut_string Try.underlying9 w0) (trodAll_cons_mk (shut_int Try.underlying3 w1) trodAll_mk0))) (fun _ _ => rfl) rfl
    (hg.frame _) hg.2.1 (ok_one (by kernel_rfl) rfl (okWide_bool_mk Try.underlying4 _))⟩

theorem over : Rows.fnStringEndMatchesParityModelRow.holds Try.pinned (OpenSpec.ofChange Rows.fnStringEndMatchesParityModelSpec) :=
  OpenClaim.holds_of_wide 3 Try.f3 rfl rfl rfl rfl rfl rfl rfl ⟨rfl, rfl, rfl, rfl, rfl⟩ rfl rfl rfl rfl rfl (by kernel_rfl) Try.func3 (by kernel_rfl)
    (of_decide_eq_true (by kernel_rfl)) (by unfold Func.isWrapper; first | (rw [if_pos (by decide +kernel)]; kernel_rfl) | (rw [if_neg (by decide +kernel)]; exact ⟨rfl, rfl⟩))
    (fun os started H enc _ => lifted os started H enc)

/-- ████ THE STATEMENT ████ -/
theorem proved : Rows.FnStringEndMatchesParityModelSaid :=
  over
end Go.Proofs.Qxb6602432a.fnStringEndMatchesParityModel
