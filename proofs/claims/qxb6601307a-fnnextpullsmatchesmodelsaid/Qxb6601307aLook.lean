/-
  THE WALKS of zzAscending, zzSameStrings, ZZQueue, ZZAskedLen, ZZAsked.
-/
import Derived.Test.Qxb6601307aNext
set_option linter.unusedVariables false
namespace Go.Proofs.Qxb6601307a
open Go.RowKit Go.Maps

theorem drewN_two (w : World) (n m : Nat) : (w.drewN n).drewN m = w.drewN (n + m) := by
  unfold World.drewN
  simp [Nat.add_assoc]

/-- what zzAscending says -/
def AscPost (w w' : World) (x : Sl) (xs : Nat → Int) (e : Ending) : Prop := ∃ r, e = .returned (.bool r) ∧ (∃ n, w' = w.drewN n) ∧ (r = true → ∀ i, i + 1 < x.len → xs i < xs (i + 1))

set_option maxHeartbeats 1000000 in
theorem asc10 (w : World) (x : Sl) (xs : Nat → Int) (h : IntsAt w x xs) (hl : x.len ≤ 1048576) : Calls Try.prog 10 #[.slice x.oa x.len x.cap] w fun e w' => AscPost w w' x xs e := by
  have H : Hid (IntsAt w x xs) := h
  clear h
  go_enter Try.func10, Try.ntmps10
  go_wp2_with fail
  go_loopw [3] (fun t wr => ∃ k : Nat, t = .int .i64 k ∧ 0 < k ∧ k ≤ x.len + 1 ∧ (∃ n, wr = w.drewN n) ∧ ∀ i, i + 1 < k → i + 1 < x.len → xs i < xs (i + 1)) (fun t _ => x.len + 1 - (intOf t).toNat)
  case atStart => exact ⟨1, rfl, by omega, by omega, ⟨0, rfl⟩, fun i hi => absurd hi (by omega)⟩
  case round =>
    obtain ⟨k, rfl, hk0, hk, ⟨n, rfl⟩, ha⟩ := hrel
    have HA : Hid (∀ i, i + 1 < k → i + 1 < x.len → xs i < xs (i + 1)) := ha
    clear ha
    by_cases hlt : k < x.len
    · have hi1 := H.out.ok.i22 (k := k) hlt
      have hi0 := H.out.ok.i22 (k := k - 1) (by omega)
      have hwr : IntKind.i64.wrap ((k : Int) - 1) = ((k - 1 : Nat) : Int) := by rw [IntKind.wrap_i64]; omega
      have hc1 := H.out.cell k hlt
      have hc0 := H.out.cell (k - 1) (by omega)
      by_cases hge : xs (k - 1) ≥ xs k
      · go_wp2_with fail
        go_quiet (fail)
        go_wp2_with fail
        go_ret
        exact ⟨false, rfl, ⟨_, drewN_two _ _ _⟩, fun h => by cases h⟩
      · go_wp2_with fail
        go_quiet (fail)
        go_wp2_with fail
        go_roundw
        case rel =>
          refine ⟨k + 1, by go_num, by omega, by omega, ⟨_, rfl⟩, fun i hi hi2 => ?_⟩
          by_cases hik : i + 1 < k
          · exact HA.out i hik hi2
          · obtain rfl : k = i + 1 := by omega
            have e : i + 1 - 1 = i := by omega
            rw [e] at hge
            omega
        case measure => simp [intOf]; omega
    · go_wp2_with fail
      go_ret
      exact ⟨true, rfl, ⟨n, rfl⟩, fun _ i hi => HA.out i (by omega) hi⟩

/-- the same strings: true -/
def TruePost (w w' : World) (e : Ending) : Prop := e = .returned (.bool true) ∧ ∃ n, w' = w.drewN n

set_option maxHeartbeats 1000000 in
theorem same17 (w : World) (x y : Sl) (xs ys : Nat → ByteArray) (hx : StrsAt w x xs) (hy : StrsAt w y ys) (hl0 : x.len = y.len) (he : ∀ i, i < x.len → xs i = ys i) (hm : x.len ≤ 1048576) :
    Calls Try.prog 17 #[.slice x.oa x.len x.cap, .slice y.oa y.len y.cap] w fun e w' => TruePost w w' e := by
  have HX : Hid (StrsAt w x xs) := hx
  have HY : Hid (StrsAt w y ys) := hy
  have HE : Hid (∀ i, i < x.len → xs i = ys i) := he
  have HL : Hid (x.len = y.len) := hl0
  obtain ⟨yo, yl, yc, yb, yoo⟩ := y
  have hl0' : x.len = yl := hl0
  subst hl0'
  clear hx hy he hl0 HL
  go_enter Try.func17, Try.ntmps17
  go_wp2_with fail
  go_loopw [13] (fun t wr => ∃ k : Nat, t = .int .i64 k ∧ k ≤ x.len ∧ ∃ n, wr = w.drewN n) (fun t _ => x.len - (intOf t).toNat)
  case atStart => exact ⟨0, rfl, by omega, 0, rfl⟩
  case round =>
    obtain ⟨k, rfl, hk, n, rfl⟩ := hrel
    by_cases hlt : k < x.len
    · have hi0 := HX.out.ok.i43 (k := k) hlt
      have hi1 := HY.out.ok.i43 (k := k) hlt
      have hc0 := HX.out.cell k hlt
      have hc1 := HY.out.cell k hlt
      rw [← HE.out k hlt] at hc1
      go_wp2_with fail
      go_quiet (fail)
      go_wp2_with fail
      go_roundw
      case rel => exact ⟨k + 1, by go_num, by omega, _, rfl⟩
      case measure => simp [intOf]; omega
    · go_wp2_with fail
      go_ret
      exact ⟨rfl, n, rfl⟩

section
variable {w : World} {bp b3 n : Nat} {fr : Nat → Int} {bq : Nat → Nat} {f : Int} {j ba c : Nat} {q' : Sl} {p : PullR} {L : List ByteArray}

set_option maxHeartbeats 400000 in
theorem queue18 (hc : w.cell? ⟨bp, 3, none⟩ = some (.map (some b3))) (hp : PullM w b3 n fr bq) (hf : (Lit.int .i64 f).wf = true) (hj : lastIdx fr n f = some j) (hr : PRow w p bp (bq j) ba c L q') :
    Calls Try.prog 18 #[.pointer (some ⟨bp, 0, none⟩), .int .i64 f] w fun e w' => e = .returned (.slice q'.oa q'.len q'.cap) ∧ w' = w := by
  have hget := hp.get hf hj
  have hd := hr.blk.c0
  clear hp hj hr
  go_enter Try.func18, Try.ntmps18
  go_wp2_with fail
  go_ret
  exact ⟨rfl, rfl⟩

set_option maxHeartbeats 400000 in
theorem askedlen19 (hc : w.cell? ⟨bp, 3, none⟩ = some (.map (some b3))) (hp : PullM w b3 n fr bq) (hf : (Lit.int .i64 f).wf = true) (hj : lastIdx fr n f = some j) (hr : PRow w p bp (bq j) ba c L q') :
    Calls Try.prog 19 #[.pointer (some ⟨bp, 0, none⟩), .int .i64 f] w fun e w' => e = .returned (.int .i64 (szL L)) ∧ w' = w := by
  have hget := hp.get hf hj
  have hd := hr.blk.c1
  have hlen := hr.own.len
  clear hp hj hr
  go_enter Try.func19, Try.ntmps19
  go_wp2_with fail
  go_ret
  exact ⟨rfl, rfl⟩

set_option maxHeartbeats 400000 in
theorem asked20 (hc : w.cell? ⟨bp, 3, none⟩ = some (.map (some b3))) (hp : PullM w b3 n fr bq) (hf : (Lit.int .i64 f).wf = true) (hj : lastIdx fr n f = some j) (hr : PRow w p bp (bq j) ba c L q') {x : ByteArray} (hx : x.size ≤ maxLen) :
    Calls Try.prog 20 #[.pointer (some ⟨bp, 0, none⟩), .int .i64 f, .string x] w fun e w' => e = .returned (.bool (inL L x)) ∧ w' = w := by
  have hget := hp.get hf hj
  have hd := hr.blk.c1
  have hlook := hr.own.look hx
  clear hp hj hr
  go_enter Try.func20, Try.ntmps20
  go_wp2_with fail
  go_ret
  exact ⟨rfl, rfl⟩

end
end Go.Proofs.Qxb6601307a
