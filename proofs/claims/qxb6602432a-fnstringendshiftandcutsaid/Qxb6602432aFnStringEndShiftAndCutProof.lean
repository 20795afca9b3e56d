/-
  Rows.FnStringEndShiftAndCutSaid, proved: the frame is the shell's; the walk is ours.
-/
import Derived.Test.Qxb6602432aRows
import Derived.Test.Qxb6602432aSeWalks
import Derived.WalkKit
import Derived.WalkSpells
import Derived.WalkLawsBesides
import Derived.ProofKit
import Derived.OpenShut
import Derived.ShutString
namespace Go.Proofs.Qxb6602432a.fnStringEndShiftAndCut
open Go.ChangeShapes Go.WideShapes Go.ChangeAt Go.RowKit
open Go.ChangeMaps (open_string shut_string)
set_option linter.unusedVariables false      -- a walk need not use every 'w<i>' (that an integer argument fits its kind)

theorem own : ownKnob Try.prog.godebug = none := by kernel_rfl

/-! ### The callees -/
theorem zz_yes (s : ByteArray) (z : Int) (w : World) (h : s.size ≤ 1048576) :
    Calls Try.prog 13 #[.string s, .int .i64 z] w fun e w' => e = .returned (.bool true) ∧ w' = w := by
  go_enter Try.func13, Try.ntmps13
  go_wp2
  go_ret
  exact ⟨rfl, rfl⟩

theorem zz_no (s : ByteArray) (z : Int) (w : World) (h : ¬ s.size ≤ 1048576) :
    Calls Try.prog 13 #[.string s, .int .i64 z] w fun e w' => e = .returned (.bool false) ∧ w' = w := by
  go_enter Try.func13, Try.ntmps13
  go_wp2
  go_ret
  exact ⟨rfl, rfl⟩

/-! ### Both calls behind the first -/
theorem ext_get0 (s : ByteArray) (n : Nat) (hn : n < s.size) (h : 0 < (s.extract n s.size).size) : (s.extract n s.size)[0] = s[n] := by
  have h1 := Se.bs_get (s.extract n s.size) 0 h
  rw [Se.bs, Lib.extract_data, List.getElem?_take_of_lt (by omega), List.getElem?_drop, Nat.add_zero] at h1
  rw [Se.bs_get s n hn] at h1
  exact (Option.some.inj h1).symm

theorem ext_get1 (s : ByteArray) (n E : Nat) (hn : n < s.size) (hE : n < E) (h : n < (s.extract 0 E).size) : (s.extract 0 E)[n] = s[n] := by
  have h1 := Se.bs_get (s.extract 0 E) n h
  rw [Se.bs, Lib.extract_data, List.getElem?_take_of_lt (by omega), List.getElem?_drop, Nat.zero_add] at h1
  rw [Se.bs_get s n hn] at h1
  exact (Option.some.inj h1).symm

theorem shift_call (s : ByteArray) (n E : Nat) (w : World) (hs : s.size ≤ 1048576) (hn : n < s.size) (hq : s[n] = 34 ∨ s[n] = 39) (hE : E = n + Se.se ((Se.bs s).drop n)) :
    Calls Try.prog 10 #[.string (s.extract n s.size), .int .i64 0] w fun e w' => e = .returned (.int .i64 ((E - n : Nat) : Int)) ∧ w' = w := by
  have hz : (s.extract n s.size).size = s.size - n := by simp
  refine se10 (s.extract n s.size) 0 (E - n) 0 w rfl (by omega) (by omega) (by rw [ext_get0 s n hn]; exact hq) ?_
  rw [Se.bs, Lib.extract_data, List.take_of_length_le (by rw [List.length_drop, ← Lib.size_eq]; exact Nat.le_refl _), List.drop_zero]
  show E - n = 0 + Se.se ((Se.bs s).drop n)
  omega

theorem cut_call (s : ByteArray) (n E : Nat) (w : World) (hs : s.size ≤ 1048576) (hn : n < s.size) (hq : s[n] = 34 ∨ s[n] = 39) (hE : E = n + Se.se ((Se.bs s).drop n)) (h1 : n < E) (h2 : E ≤ s.size) :
    Calls Try.prog 10 #[.string (s.extract 0 E), .int .i64 n] w fun e w' => e = .returned (.int .i64 E) ∧ w' = w := by
  have hz : (s.extract 0 E).size = E := by simp; omega
  refine se10 (s.extract 0 E) n E n w rfl (by omega) (by omega) (by rw [ext_get1 s n E hn h1]; exact hq) ?_
  rw [Se.bs, Lib.extract_data, List.drop_zero, Nat.sub_zero, List.drop_take, show E - n = Se.se ((Se.bs s).drop n) by omega, Se.se_cut]
  exact hE

theorem end_bounds (s : ByteArray) (n E : Nat) (hn : n < s.size) (hE : E = n + Se.se ((Se.bs s).drop n)) : n < E ∧ E ≤ s.size := by
  rw [Se.bs_drop s n hn] at hE
  have := Se.se_pos s[n] ((Se.bs s).drop (n + 1))
  rw [List.length_cons, List.length_drop, Se.bs_len] at this
  omega

/-! ### STEP 1: THE WALK: the Go text returns true. -/
set_option maxHeartbeats 400000 in
theorem walk (a0 : ByteArray) (a1 : Int) (w0 : a0.size ≤ maxLen) (w1 : (Lit.int .i64 a1).wf = true) (w : World) :
    Calls Try.prog 5 #[.string a0, .int .i64 a1] w fun e w' => e = .returned (.bool true) ∧ Grown w w' := by
  clear w0
  by_cases hs : a0.size ≤ 1048576
  · by_cases h0 : 0 ≤ a1
    · obtain ⟨n, rfl⟩ := Int.eq_ofNat_of_zero_le h0
      clear h0 w1
      by_cases hn : n < a0.size
      · by_cases hq : a0[n] = 34 ∨ a0[n] = 39
        · obtain ⟨E, HE⟩ : ∃ E, Hid (E = n + Se.se ((Se.bs a0).drop n)) := ⟨_, rfl⟩
          obtain ⟨hE1, hE2⟩ := end_bounds a0 n E hn HE.out
          have HQ : Hid _ := hq
          have he : (((E - n : Nat) : Int) != (E : Int) - (n : Int)) = false := by
            rw [bne_eq_false_iff_eq]; omega
          rcases hq with hq | hq
          · have hq' : (a0[n].toNat : Int) = 34 := by rw [hq]; rfl
            clear hq
            go_enter Try.func5, Try.ntmps5
            go_wp2_with (go_at_call 13; refine (zz_yes _ _ _ hs).mono ?_; rintro e w' ⟨rfl, rfl⟩)
            refine (se10 a0 n E n _ rfl hs hn HQ.out HE.out).mono ?_
            rintro e w' ⟨rfl, rfl⟩
            go_wp2_with fail
            refine (shift_call a0 n E _ hs hn HQ.out HE.out).mono ?_
            rintro e w' ⟨rfl, rfl⟩
            go_wp2_with fail
            refine (cut_call a0 n E _ hs hn HQ.out HE.out hE1 hE2).mono ?_
            rintro e w' ⟨rfl, rfl⟩
            go_wp2_with fail
            go_ret
            exact ⟨by simp, Grown.refl _⟩
          · have hq' : (a0[n].toNat : Int) = 39 := by rw [hq]; rfl
            clear hq
            go_enter Try.func5, Try.ntmps5
            go_wp2_with (go_at_call 13; refine (zz_yes _ _ _ hs).mono ?_; rintro e w' ⟨rfl, rfl⟩)
            refine (se10 a0 n E n _ rfl hs hn HQ.out HE.out).mono ?_
            rintro e w' ⟨rfl, rfl⟩
            go_wp2_with fail
            refine (shift_call a0 n E _ hs hn HQ.out HE.out).mono ?_
            rintro e w' ⟨rfl, rfl⟩
            go_wp2_with fail
            refine (cut_call a0 n E _ hs hn HQ.out HE.out hE1 hE2).mono ?_
            rintro e w' ⟨rfl, rfl⟩
            go_wp2_with fail
            go_ret
            exact ⟨by simp, Grown.refl _⟩
        · have hd1 : ((a0[n].toNat : Int) != 34) = true := by
            rw [bne_iff_ne]; intro h; exact hq (.inl (Se.byte_yes 34 (beq_iff_eq.2 h) rfl))
          have hd2 : ((a0[n].toNat : Int) != 39) = true := by
            rw [bne_iff_ne]; intro h; exact hq (.inr (Se.byte_yes 39 (beq_iff_eq.2 h) rfl))
          clear hq
          go_enter Try.func5, Try.ntmps5
          go_wp2_with (first | (go_at_call 13; refine (zz_yes _ _ _ hs).mono ?_; rintro e w' ⟨rfl, rfl⟩))
          go_ret
          exact ⟨rfl, Grown.refl _⟩
      · go_enter Try.func5, Try.ntmps5
        go_wp2_with (first | (go_at_call 13; refine (zz_yes _ _ _ hs).mono ?_; rintro e w' ⟨rfl, rfl⟩))
        go_ret
        exact ⟨rfl, Grown.refl _⟩
    · go_enter Try.func5, Try.ntmps5
      go_wp2_with (first | (go_at_call 13; refine (zz_yes _ _ _ hs).mono ?_; rintro e w' ⟨rfl, rfl⟩))
      go_ret
      exact ⟨rfl, Grown.refl _⟩
  · go_enter Try.func5, Try.ntmps5
    go_wp2_with (first | (go_at_call 13; refine (zz_no _ _ _ hs).mono ?_; rintro e w' ⟨rfl, rfl⟩))
    go_ret
    exact ⟨rfl, Grown.refl _⟩

/-! ### THE ROW's STEP: WRITTEN OUT: LEAVE IT -/
set_option maxRecDepth 100000 in
theorem lifted (os : Os) (started : os.Started) (H : Type) (enc : TypeId × Value → H) :
    ReturnsInHanded {} Try.checked os 5 .any (Rows.fnStringEndShiftAndCutSpec.pre6 enc Try.prog Try.f5 Rows.fnStringEndShiftAndCutRow.domain false) (Rows.fnStringEndShiftAndCutSpec.post enc Try.prog Try.f5 false true false false) := by
  refine returnsInHanded_of_change (C := Try.checked) own started (by kernel_rfl) Try.func5
    (ChangeSpec.witness6 (enc := enc) (C := Try.checked) false ⟨#[], #[.string ByteArray.empty, .int .i64 0], []⟩ 8 (by kernel_rfl) (by kernel_rfl) (by kernel_rfl) (by kernel_rfl)) ?_
  intro W base args ds gs before hval0 hW hcnd _
  have hval : ∀ (j : Nat) t v, Try.f5.params[j]? = some t → args[j]? = some v → Value.okWide Try.prog W .any base t v := hval0
  have hW' := hW
  obtain ⟨p, q, hA0, hV, rfl, hfz, hnd⟩ := hW
  have hA : DataW.TrodAll enc Try.prog W 0 (fun _ => true) true Try.f5.params.toList args.toList ds p := hA0
  rw [Try.params5] at hA hval
  obtain ⟨v0, vs0, d0, ds0, p0, q0, hargs, rfl, rfl, h0, r0⟩ := trodAll_cons hA
  obtain ⟨v1, vs1, d1, ds1, p1, q1, rfl, rfl, rfl, h1, r1⟩ := trodAll_cons r0
  obtain ⟨rfl, rfl, rfl⟩ := trodAll_nil r1
  obtain rfl : args = #[v0, v1] := by cases args; simp_all
  obtain ⟨rfl, rfl⟩ := trodVars_none hV
  obtain ⟨a0, rfl, rfl, rfl, w0⟩ := open_string Try.underlying9 (hval 0 9 v0 rfl rfl) h0
  obtain ⟨a1, rfl, rfl, rfl, w1⟩ := open_int Try.underlying3 (hval 1 3 v1 rfl rfl) h1
  clear hA0 hval0
  simp only [List.append_nil] at hW'
  refine (walk a0 a1 w0 w1 W).mono fun e W' ⟨he, hg⟩ => ?_
  subst he
  exact ⟨_, rfl, post_of_same (pa := []) (pv := []) hW' (fun _ _ _ => (trodAll_cons_mk (shut_bool Try.underlying4 _) trodAll_mk0)) (fun sp _ => (trodAll_cons_mk (shut_string Try.underlying9 w0) (trodAll_cons_mk (shut_int Try.underlying3 w1) trodAll_mk0))) (fun _ _ => rfl) rfl
    (hg.frame _) hg.2.1 (ok_one (by kernel_rfl) rfl (okWide_bool_mk Try.underlying4 _))⟩

theorem over : Rows.fnStringEndShiftAndCutRow.holds Try.pinned (OpenSpec.ofChange Rows.fnStringEndShiftAndCutSpec) :=
  OpenClaim.holds_of_wide 5 Try.f5 rfl rfl rfl rfl rfl rfl rfl ⟨rfl, rfl, rfl, rfl, rfl⟩ rfl rfl rfl rfl rfl (by kernel_rfl) Try.func5 (by kernel_rfl)
    (of_decide_eq_true (by kernel_rfl)) (by unfold Func.isWrapper; first | (rw [if_pos (by decide +kernel)]; kernel_rfl) | (rw [if_neg (by decide +kernel)]; exact ⟨rfl, rfl⟩))
    (fun os started H enc _ => lifted os started H enc)

/-- ████ THE STATEMENT ████ -/
theorem proved : Rows.FnStringEndShiftAndCutSaid :=
  over
end Go.Proofs.Qxb6602432a.fnStringEndShiftAndCut
