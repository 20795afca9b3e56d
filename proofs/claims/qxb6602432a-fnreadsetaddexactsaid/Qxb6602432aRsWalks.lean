/-
  THE WALKS of readSet's methods has, len, add, and of the shims that call them.
-/
import Derived.Test.Qxb6602432aRsMap
import Derived.Deep.QuietTactic
import Derived.BigQuiet
set_option linter.unusedVariables false
namespace Go.Proofs.Qxb6602432a
open Go.RowKit Go.Maps

theorem neqNil (w : World) (r : Option Nat) : (binOp .neq 43 (.map r) (.map none)).run Try.prog w = .ok (.bool (!r.isNone)) w := run_neq_map_nil w 43 9 4 r Try.underlying43
theorem eqlNil (w : World) (r : Option Nat) : (binOp .eql 43 (.map r) (.map none)).run Try.prog w = .ok (.bool r.isNone) w := run_eql_map_nil w 43 9 4 r Try.underlying43

/-! ### has -/
set_option maxHeartbeats 400000 in
theorem has29_off (w : World) (b : Nat) (few : Nat → ByteArray) (n : Nat) (x : ByteArray) (h : RsB w b few n none) (hn : n ≤ 8) :
    Calls Try.prog 29 #[.pointer (some ⟨b, 0, none⟩), .string x] w fun e w' => e = .returned (.bool (inFew few n x)) ∧ w' = w.drew := by
  have h9 := h.map
  have h8 := h.num
  have hf := h.few
  have hneq := neqNil
  have hn' : (n : Int) ≤ 8 := by omega
  clear h
  go_enter Try.func29, Try.ntmps29
  go_wp2
  go_region
  go_wp2
  go_loop [27] (fun t => ∃ k : Nat, t = .int .i64 k ∧ k ≤ n ∧ inFew few k x = false) (fun t => n - (intOf t).toNat)
  case atStart => exact ⟨0, rfl, Nat.zero_le _, rfl⟩
  case round =>
    obtain ⟨k, rfl, hk, hno⟩ := hrel
    have HN : Hid _ := hno
    clear hno
    by_cases hlt : k < n
    · have hc := hf k (by omega)
      cases hx : (few k).toList == x.toList with
      | true =>
        have HR : Hid (inFew few n x = true) := inFew_hit hlt hx
        go_wp2
        go_ret
        exact ⟨by rw [HR.out]; rfl, rfl⟩
      | false =>
        have HR : Hid (inFew few (k + 1) x = false) := inFew_step HN.out hx
        go_wp2
        go_round
        case rel => exact ⟨k + 1, by go_num, by omega, HR.out⟩
        case measure => simp [intOf]; omega
    · have HR : Hid (inFew few n x = false) := by
        have : k = n := by omega
        exact this ▸ HN.out
      go_wp2
      go_ret
      exact ⟨by rw [HR.out]; rfl, rfl⟩


theorem has29_on (w : World) (b bm : Nat) (few : Nat → ByteArray) (n : Int) (L : List ByteArray) (x : ByteArray) (h : RsB w b few n (some bm)) (hL : OwnsL w bm L) (hx : x.size ≤ maxLen) :
    Calls Try.prog 29 #[.pointer (some ⟨b, 0, none⟩), .string x] w fun e w' => e = .returned (.bool (inL L x)) ∧ w' = w := by
  have h9 := h.map
  have hneq := neqNil
  have hrun := hL.look hx
  clear h hL hx
  go_enter Try.func29, Try.ntmps29
  go_wp2
  go_ret
  exact ⟨rfl, rfl⟩

/-! ### len -/
theorem len30_off (w : World) (b : Nat) (few : Nat → ByteArray) (n : Int) (h : RsB w b few n none) :
    Calls Try.prog 30 #[.pointer (some ⟨b, 0, none⟩)] w fun e w' => e = .returned (.int .i64 n) ∧ w' = w := by
  have h9 := h.map
  have h8 := h.num
  have hneq := neqNil
  clear h
  go_enter Try.func30, Try.ntmps30
  go_wp2
  go_ret
  exact ⟨rfl, rfl⟩

theorem len30_on (w : World) (b bm : Nat) (few : Nat → ByteArray) (n : Int) (L : List ByteArray) (h : RsB w b few n (some bm)) (hL : OwnsL w bm L) :
    Calls Try.prog 30 #[.pointer (some ⟨b, 0, none⟩)] w fun e w' => e = .returned (.int .i64 (szL L)) ∧ w' = w := by
  have h9 := h.map
  have hneq := neqNil
  have hrun := hL.len
  clear h hL
  go_enter Try.func30, Try.ntmps30
  go_wp2
  go_ret
  exact ⟨rfl, rfl⟩

/-! ### add -/
theorem add31_there_off (w : World) (b : Nat) (few : Nat → ByteArray) (n : Nat) (x : ByteArray) (h : RsB w b few n none) (hn : n ≤ 8) (hin : inFew few n x = true) :
    Calls Try.prog 31 #[.pointer (some ⟨b, 0, none⟩), .string x] w fun e w' => e = .returned (.tuple #[]) ∧ w' = w.drew := by
  go_enter Try.func31, Try.ntmps31
  go_wp2_with (go_at_call 29; refine (has29_off w b few n x h hn).mono ?_; rintro e w' ⟨rfl, rfl⟩)
  refine bodyPost_ret (results_none rfl _ _ _) rfl ?_
  exact ⟨rfl, rfl⟩

theorem add31_there_on (w : World) (b bm : Nat) (few : Nat → ByteArray) (n : Int) (L : List ByteArray) (x : ByteArray) (h : RsB w b few n (some bm)) (hL : OwnsL w bm L) (hx : x.size ≤ maxLen) (hin : inL L x = true) :
    Calls Try.prog 31 #[.pointer (some ⟨b, 0, none⟩), .string x] w fun e w' => e = .returned (.tuple #[]) ∧ w' = w := by
  go_enter Try.func31, Try.ntmps31
  go_wp2_with (go_at_call 29; refine (has29_on _ b bm few n L x h hL hx).mono ?_; rintro e w' ⟨rfl, rfl⟩)
  refine bodyPost_ret (results_none rfl _ _ _) rfl ?_
  exact ⟨rfl, rfl⟩

set_option maxHeartbeats 400000 in
theorem add31_inline (w : World) (b : Nat) (few : Nat → ByteArray) (n : Nat) (x : ByteArray) (h : RsB w b few n none) (hn : n < 8) (hin : inFew few n x = false) :
    Calls Try.prog 31 #[.pointer (some ⟨b, 0, none⟩), .string x] w fun e w' => e = .returned (.tuple #[]) ∧ RsB w' b (upd few n x) (n + 1) none ∧ Kept (· = b) w w' := by
  have HH : Hid (RsB w b few n none) := h
  have h9 := h.map
  have h8 := h.num
  have hfz := h.free
  have hf := h.few n hn
  have hn' : (n : Int) < 8 := by omega
  have heql := eqlNil
  clear h
  go_enter Try.func31, Try.ntmps31
  go_wp2_with (go_at_call 29; refine (has29_off w b few n x HH.out (by omega)).mono ?_; rintro e w' ⟨rfl, rfl⟩)
  go_region
  go_wp2
  refine bodyPost_ret (results_none rfl _ _ _) rfl ?_
  have h1 : RsB ((w.setCell ⟨b, n, none⟩ (.string x)).setCell ⟨b, 8, none⟩ (.int .i64 ((n : Int) + 1))) b (upd few n x) (n + 1) none := (HH.out.setFew hn x).setNum _
  have h2 : Kept (· = b) w ((w.setCell ⟨b, n, none⟩ (.string x)).setCell ⟨b, 8, none⟩ (.int .i64 ((n : Int) + 1))) := ((Kept.refl (· = b) w).setNew (fun _ => rfl) _).setNew (fun _ => rfl) _
  exact ⟨rfl, h1, h2.drew.drew⟩

set_option maxHeartbeats 400000 in
theorem add31_map (w : World) (b bm : Nat) (few : Nat → ByteArray) (n : Int) (L : List ByteArray) (x : ByteArray) (h : RsB w b few n (some bm)) (hL : OwnsL w bm L) (hLl : L.length < maxLen) (hx : x.size ≤ maxLen) (hin : inL L x = false) :
    Calls Try.prog 31 #[.pointer (some ⟨b, 0, none⟩), .string x] w fun e w' => e = .returned (.tuple #[]) ∧ RsB w' b few n (some bm) ∧ OwnsL w' bm (L ++ [x]) ∧ Kept (· = bm) w w' := by
  have HH : Hid (RsB w b few n (some bm)) := h
  have HL : Hid (OwnsL w bm L) := hL
  have h9 := h.map
  have heql := eqlNil
  clear h hL
  go_enter Try.func31, Try.ntmps31
  go_wp2_with (first
    | (go_at_call 29; refine (has29_on _ b bm few n L x HH.out HL.out hx).mono ?_; rintro e w' ⟨rfl, rfl⟩)
    | (at_mapUpdate; refine wpList_mapUpdate_in _ rfl _ _ _ 43 rfl 9 4 law9 Try.underlying43 _ bm L.length (setL L) rfl HL.out hLl _ _ _ rfl rfl (key9 hx) _ [] (plainElem_bool Try.underlying4 true) ?_; intro w1 hown1 hturn1))
  go_end0
  rw [← setL_snoc] at hown1
  have hown2 : OwnsL w1 bm (L ++ [x]) := by
    unfold OwnsL
    rw [List.length_append]
    exact hown1
  exact ⟨rfl, HH.out.kept ((Kept.refl (· = bm) _).turned hturn1 (fun _ => rfl)) (fun e => HL.out.ne HH.out e.symm), hown2, (Kept.refl _ _).turned hturn1 (fun _ => rfl)⟩

theorem makeHint (w : World) (z : Int) : (Instr.makeMap 43 (some (.int .i64 z))).run Try.prog w = .ok (.map (some w.heap.size)) (w.alloc (.map #[] 0)) := by
  simp [Instr.makeMap, run_underlying Try.underlying43, Result.andThen]
  rfl

set_option maxHeartbeats 400000 in
theorem add31_spill (w : World) (b : Nat) (few : Nat → ByteArray) (x : ByteArray) (h : RsB w b few 8 none) (hx : x.size ≤ maxLen) (hfs : ∀ k, k < 8 → (few k).size ≤ maxLen) (hin : inFew few 8 x = false) :
    Calls Try.prog 31 #[.pointer (some ⟨b, 0, none⟩), .string x] w fun e w' => e = .returned (.tuple #[]) ∧ RsB w' b few 8 (some w.heap.size) ∧ OwnsL w' w.heap.size (fewL few 8 ++ [x]) ∧ Kept (· = b) w w' := by
  have HH : Hid (RsB w b few 8 none) := h
  have h9 := h.map
  have h8 := h.num
  have hfz := h.free
  have hb := h.lt
  have heql := eqlNil
  have hmm := makeHint
  clear h
  go_enter Try.func31, Try.ntmps31
  go_wp2_with (go_at_call 29; refine (has29_off w b few 8 x HH.out (by omega)).mono ?_; rintro e w' ⟨rfl, rfl⟩)
  go_region
  go_wp2
  go_loopw [55] (fun t wr => ∃ k : Nat, t = .int .i64 k ∧ k ≤ 8 ∧ RsB wr b few 8 (some w.heap.size) ∧ OwnsL wr w.heap.size (fewL few k) ∧ Kept (· = b) w wr) (fun t _ => 8 - (intOf t).toNat)
  case atStart =>
    have e1 : (w.setCell ⟨b, 9, none⟩ (.map (some w.heap.size))).heap.size = w.heap.size := by simp [World.setCell]
    have r1 : RsB ((w.setCell ⟨b, 9, none⟩ (.map (some w.heap.size))).alloc (.map #[] 0)) b few 8 (some w.heap.size) := (HH.out.setMap _).alloc _
    have r2 : OwnsL ((w.setCell ⟨b, 9, none⟩ (.map (some w.heap.size))).alloc (.map #[] 0)) w.heap.size (fewL few 0) := by
      have := OwnsL.made (w.setCell ⟨b, 9, none⟩ (.map (some w.heap.size)))
      rw [e1] at this
      exact this
    have r3 : Kept (· = b) w ((w.setCell ⟨b, 9, none⟩ (.map (some w.heap.size))).alloc (.map #[] 0)) := ((Kept.refl (· = b) w).setNew (fun _ => rfl) _).alloc _
    exact ⟨0, rfl, by omega, r1.drew.drew, r2.of_heap rfl, r3.drew.drew⟩
  case round =>
    obtain ⟨k, rfl, hk, hR, hO, hKp⟩ := hrel
    have HR : Hid (RsB _ b few 8 (some w.heap.size)) := hR
    have HO : Hid (OwnsL _ w.heap.size (fewL few k)) := hO
    have HK : Hid (Kept (· = b) w _) := hKp
    have g9 := hR.map
    have hne := hO.ne hR
    have hf := hR.few
    clear hR hO hKp h9 h8 hfz
    by_cases hlt : k < 8
    · have hfk := hf k hlt
      clear hf
      go_wp2_with (at_mapUpdate; refine wpList_mapUpdate_in _ rfl _ _ _ 43 rfl 9 4 law9 Try.underlying43 _ w.heap.size (fewL few k).length (setL (fewL few k)) rfl HO.out (by simp [fewL, maxLen]; omega) _ _ _ rfl rfl (key9 (hfs k hlt)) _ [] (plainElem_bool Try.underlying4 true) ?_; intro w1 hown1 hturn1)
      go_roundw
      case rel =>
        refine ⟨k + 1, by go_num, by omega, HR.out.turned hturn1 hne, ?_, HK.out.turned hturn1 (fun h => absurd h (Nat.lt_irrefl _))⟩
        rw [fewL_succ]
        exact OwnsL.stored hown1
      case measure => simp [intOf]; omega
    · have h8 : k = 8 := by omega
      subst h8
      clear hf
      go_wp2_with (at_mapUpdate; refine wpList_mapUpdate_in _ rfl _ _ _ 43 rfl 9 4 law9 Try.underlying43 _ w.heap.size (fewL few 8).length (setL (fewL few 8)) rfl HO.out (by simp [fewL, maxLen]) _ _ _ rfl rfl (key9 hx) _ [] (plainElem_bool Try.underlying4 true) ?_; intro w1 hown1 hturn1)
      go_end0
      exact ⟨rfl, HR.out.turned hturn1 hne, OwnsL.stored hown1, HK.out.turned hturn1 (fun h => absurd h (Nat.lt_irrefl _))⟩

/-! ### The shims -/
theorem has18_off (w : World) (b : Nat) (few : Nat → ByteArray) (n : Nat) (x : ByteArray) (h : RsB w b few n none) (hn : n ≤ 8) :
    Calls Try.prog 18 #[.pointer (some ⟨b, 0, none⟩), .string x] w fun e w' => e = .returned (.bool (inFew few n x)) ∧ w' = w.drew := by
  go_enter Try.func18, Try.ntmps18
  go_wp2_with (go_at_call 29; refine (has29_off w b few n x h hn).mono ?_; rintro e w' ⟨rfl, rfl⟩)
  go_ret
  exact ⟨rfl, rfl⟩

theorem has18_on (w : World) (b bm : Nat) (few : Nat → ByteArray) (n : Int) (L : List ByteArray) (x : ByteArray) (h : RsB w b few n (some bm)) (hL : OwnsL w bm L) (hx : x.size ≤ maxLen) :
    Calls Try.prog 18 #[.pointer (some ⟨b, 0, none⟩), .string x] w fun e w' => e = .returned (.bool (inL L x)) ∧ w' = w := by
  go_enter Try.func18, Try.ntmps18
  go_wp2_with (go_at_call 29; refine (has29_on w b bm few n L x h hL hx).mono ?_; rintro e w' ⟨rfl, rfl⟩)
  go_ret
  exact ⟨rfl, rfl⟩

theorem len20_off (w : World) (b : Nat) (few : Nat → ByteArray) (n : Int) (h : RsB w b few n none) :
    Calls Try.prog 20 #[.pointer (some ⟨b, 0, none⟩)] w fun e w' => e = .returned (.int .i64 n) ∧ w' = w := by
  go_enter Try.func20, Try.ntmps20
  go_wp2_with (go_at_call 30; refine (len30_off w b few n h).mono ?_; rintro e w' ⟨rfl, rfl⟩)
  go_ret
  exact ⟨rfl, rfl⟩

theorem len20_on (w : World) (b bm : Nat) (few : Nat → ByteArray) (n : Int) (L : List ByteArray) (h : RsB w b few n (some bm)) (hL : OwnsL w bm L) :
    Calls Try.prog 20 #[.pointer (some ⟨b, 0, none⟩)] w fun e w' => e = .returned (.int .i64 (szL L)) ∧ w' = w := by
  go_enter Try.func20, Try.ntmps20
  go_wp2_with (go_at_call 30; refine (len30_on w b bm few n L h hL).mono ?_; rintro e w' ⟨rfl, rfl⟩)
  go_ret
  exact ⟨rfl, rfl⟩

/-- whatever add's contract says, the shim says -/
theorem add21_of {b : Nat} {x : ByteArray} {w : World} {R : World → Prop} (h : Calls Try.prog 31 #[.pointer (some ⟨b, 0, none⟩), .string x] w fun e w' => e = .returned (.tuple #[]) ∧ R w') :
    Calls Try.prog 21 #[.pointer (some ⟨b, 0, none⟩), .string x] w fun e w' => e = .returned (.tuple #[]) ∧ R w' := by
  have H : Hid (Calls Try.prog 31 #[.pointer (some ⟨b, 0, none⟩), .string x] w fun e w' => e = .returned (.tuple #[]) ∧ R w') := h
  clear h
  go_enter Try.func21, Try.ntmps21
  go_wp2_with fail
  refine H.out.mono ?_
  rintro e w' ⟨rfl, hR⟩
  have HR : Hid (R w') := hR
  clear hR
  go_wp2
  go_end0
  exact ⟨rfl, HR.out⟩
end Go.Proofs.Qxb6602432a
