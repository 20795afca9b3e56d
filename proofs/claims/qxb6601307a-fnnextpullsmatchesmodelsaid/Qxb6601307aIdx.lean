/-
  THE WALKS of zzPullIndex and zzAllPulled: a map from a daemon to its last row.
-/
import Derived.Test.Qxb6601307aInp
set_option linter.unusedVariables false
namespace Go.Proofs.Qxb6601307a
open Go.RowKit Go.Maps

/-- the last row of daemon f among the first k -/
def lastIdx (fr : Nat → Int) : Nat → Int → Option Nat
  | 0, _ => none
  | k + 1, f => if fr k = f then some k else lastIdx fr k f

theorem lastIdx_lt (fr : Nat → Int) : ∀ (k : Nat) (f : Int) (j : Nat), lastIdx fr k f = some j → j < k ∧ fr j = f
  | 0, f, j, h => by simp [lastIdx] at h
  | k + 1, f, j, h => by
    unfold lastIdx at h
    split at h
    · rename_i e
      cases h
      exact ⟨by omega, e⟩
    · have := lastIdx_lt fr k f j h
      exact ⟨by omega, this.2⟩

theorem law3 : Keyed Try.prog 3 := int_keyed Try.underlying3
theorem zero3 (w : World) : (zeroValue 3).run Try.prog w = .ok (.int .i64 0) w := by kernel_rfl
theorem key3 {f : Int} (h : (Lit.int .i64 f).wf = true) : keyOf Try.prog 3 (.int .i64 f) = some (.int .i64 f) := keyOf_int_mk Try.underlying3 h
theorem isKey (f : Int) : WideAt.IsKeyLit (.int .i64 f) := by simp [WideAt.IsKeyLit]

/-- block bm of w maps each daemon among the first n rows to its last row -/
def OwnsIdx (w : World) (bm n : Nat) (fr : Nat → Int) : Prop :=
  ∃ D : DataW Unit, w.ownsMap Try.prog 3 (plainElem Try.prog 3) bm n D ∧ ∀ f, Maps.has D (.int .i64 f) = (lastIdx fr n f).isSome ∧ D.atKey (.int .i64 f) (.lit (.int .i64 0)) = .lit (.int .i64 ((lastIdx fr n f).getD 0 : Nat))

theorem OwnsIdx.made (w : World) (fr : Nat → Int) : OwnsIdx (w.alloc (.map #[] 0)) w.heap.size 0 fr := ⟨.map [], World.ownsMap_made _ _ _ _, fun f => ⟨rfl, rfl⟩⟩

theorem OwnsIdx.of_heap {w w' : World} {bm n : Nat} {fr : Nat → Int} (h : OwnsIdx w bm n fr) (he : w'.heap[bm]? = w.heap[bm]?) : OwnsIdx w' bm n fr := by
  obtain ⟨D, ⟨es, clock, hb, r⟩, hD⟩ := h
  exact ⟨D, ⟨es, clock, he.trans hb, r⟩, hD⟩

theorem OwnsIdx.lt {w : World} {bm n : Nat} {fr : Nat → Int} (h : OwnsIdx w bm n fr) : bm < w.heap.size := by
  obtain ⟨D, ho, _⟩ := h
  exact ho.lt

theorem OwnsIdx.kept {S : Nat → Prop} {w w' : World} {bm n : Nat} {fr : Nat → Int} (h : OwnsIdx w bm n fr) (hk : Kept S w w') (hs : ¬ S bm) : OwnsIdx w' bm n fr := h.of_heap (hk.block bm h.lt hs)

theorem OwnsIdx.step {w1 : World} {bm k : Nat} {fr : Nat → Int} {D : DataW Unit} (hD : ∀ f, Maps.has D (.int .i64 f) = (lastIdx fr k f).isSome ∧ D.atKey (.int .i64 f) (.lit (.int .i64 0)) = .lit (.int .i64 ((lastIdx fr k f).getD 0 : Nat))) (hm : IsMap D)
    (h : w1.ownsMap Try.prog 3 (plainElem Try.prog 3) bm (k + 1) (D.put (.int .i64 (fr k)) (.lit (.int .i64 (k : Int))))) : OwnsIdx w1 bm (k + 1) fr := by
  refine ⟨_, h, fun f => ?_⟩
  unfold lastIdx
  by_cases hf : fr k = f
  · rw [if_pos hf, hf, has_put_same hm (isKey f), atKey_put_same hm (isKey f)]
    exact ⟨rfl, rfl⟩
  · have hne : Lit.int .i64 f ≠ .int .i64 (fr k) := fun e => hf (by injection e with _ e2; exact e2.symm)
    rw [if_neg hf, has_put_other hne, atKey_put_other hne]
    exact hD f

/-- what zzPullIndex hands back -/
def IdxPost (w w' : World) (len : Nat) (fr : Nat → Int) (e : Ending) : Prop := ∃ bm, e = .returned (.map (some bm)) ∧ OwnsIdx w' bm len fr ∧ w.heap.size ≤ bm ∧ Kept (fun _ => False) w w'

set_option maxHeartbeats 1000000 in
theorem idx12 (w : World) (x : Sl) (ps : Nat → PullR) (h : PullAt w x ps) (hl : x.len ≤ 1048576) : Calls Try.prog 12 #[.slice x.oa x.len x.cap] w fun e w' => IdxPost w w' x.len (fun k => (ps k).frm) e := by
  have H : Hid (PullAt w x ps) := h
  have hmm := @run_makeMap Try.prog
  clear h
  go_enter Try.func12, Try.ntmps12
  go_wp2
  go_loopw [8] (fun t wr => ∃ k : Nat, t = .int .i64 k ∧ k ≤ x.len ∧ OwnsIdx wr w.heap.size k (fun k => (ps k).frm) ∧ Kept (fun _ => False) w wr) (fun t _ => x.len - (intOf t).toNat)
  case atStart => exact ⟨0, rfl, Nat.zero_le _, OwnsIdx.made w _, (Kept.refl _ _).alloc _⟩
  case round =>
    obtain ⟨k, rfl, hk, hO, hK⟩ := hrel
    have HK : Hid (Kept (fun _ => False) w wr) := hK
    have HO : Hid (OwnsIdx wr w.heap.size k (fun k => (ps k).frm)) := hO
    clear hO hK
    by_cases hlt : k < x.len
    · have hi := H.out.ok.i25 hlt
      have hc : wr.cell? ⟨x.b, x.o + k * 3, none⟩ = some (.int .i64 (ps k).frm) := HK.out.cell (p := ⟨x.b, x.o + k * 3, none⟩) (fun h => h) (H.out.c0 k hlt)
      obtain ⟨D, hown, hD⟩ := HO.out
      have HOWN : Hid (wr.ownsMap Try.prog 3 (plainElem Try.prog 3) w.heap.size k D) := hown
      have HD : Hid (∀ f, Maps.has D (.int .i64 f) = (lastIdx (fun k => (ps k).frm) k f).isSome ∧ D.atKey (.int .i64 f) (.lit (.int .i64 0)) = .lit (.int .i64 ((lastIdx (fun k => (ps k).frm) k f).getD 0 : Nat))) := hD
      clear hown hD
      go_wp2_with (at_mapUpdate; refine wpList_mapUpdate_in _ rfl _ _ _ 31 rfl 3 3 law3 Try.underlying31 _ w.heap.size k D rfl HOWN.out (by unfold maxLen; omega) _ _ _ rfl rfl (key3 (H.out.wf k hlt)) _ [] (plainElem_int Try.underlying3 (WalkArith.wf_i64 (by omega))) ?_; intro w1 hown1 hturn1)
      go_roundw
      case rel => exact ⟨k + 1, by go_num, by omega, OwnsIdx.step HD.out HOWN.out.isMap hown1, HK.out.turned hturn1 (fun h => absurd h (Nat.lt_irrefl _))⟩
      case measure => simp [intOf]; omega
    · have hkl : k = x.len := by omega
      subst hkl
      go_wp2
      go_ret
      exact ⟨w.heap.size, rfl, HO.out, Nat.le_refl _, HK.out⟩

theorem lit_inj {a b : Int} (h : (DataW.lit (.int .i64 a) : DataW Unit) = .lit (.int .i64 b)) : b = a := by
  cases h
  rfl

/-- '_, ok := idx[f]' -/
theorem OwnsIdx.look {w : World} {bm n : Nat} {fr : Nat → Int} (h : OwnsIdx w bm n fr) {f : Int} (hf : (Lit.int .i64 f).wf = true) :
    (Instr.lookup 31 (.map (some bm)) (.int .i64 f) true).run Try.prog w = .ok (.tuple #[.int .i64 ((lastIdx fr n f).getD 0 : Nat), .bool (lastIdx fr n f).isSome]) w := by
  obtain ⟨D, ho, hD⟩ := h
  obtain ⟨v, ps, hrun, hv⟩ := ho.look_ok law3 Try.underlying31 (zero3 w) (plainElem_int (H := Unit) (q := .i64) (a := 0) Try.underlying3 (by decide)) (key3 hf)
  obtain ⟨c, rfl, hc, _⟩ := plainElem_int_inv Try.underlying3 hv
  rw [(hD f).2] at hc
  rw [(hD f).1] at hrun
  simp only [Prod.mk.injEq] at hc
  rw [lit_inj hc.1] at hrun
  exact hrun

/-- 'idx[f]' -/
theorem OwnsIdx.get {w : World} {bm n : Nat} {fr : Nat → Int} (h : OwnsIdx w bm n fr) {f : Int} (hf : (Lit.int .i64 f).wf = true) :
    (Instr.lookup 31 (.map (some bm)) (.int .i64 f) false).run Try.prog w = .ok (.int .i64 ((lastIdx fr n f).getD 0 : Nat)) w := by
  obtain ⟨D, ho, hD⟩ := h
  obtain ⟨c, hrun, hat, _⟩ := ho.lookup_int law3 Try.underlying31 Try.underlying3 (zero3 w) (key3 hf)
  rw [(hD f).2] at hat
  rw [lit_inj hat] at hrun
  exact hrun

/-- is every daemon on the list in the map? -/
def allIn (fr : Nat → Int) (n : Nat) (xs : Nat → Int) (len : Nat) : Bool := (List.range len).all fun k => (lastIdx fr n (xs k)).isSome

theorem allIn_iff (fr : Nat → Int) (n : Nat) (xs : Nat → Int) (len : Nat) : allIn fr n xs len = true ↔ ∀ k, k < len → (lastIdx fr n (xs k)).isSome = true := by
  unfold allIn
  rw [List.all_eq_true]
  exact ⟨fun h k hk => h k (List.mem_range.2 hk), fun h k hk => h k (List.mem_range.1 hk)⟩

set_option maxHeartbeats 1000000 in
theorem all11 (w : World) (x : Sl) (xs : Nat → Int) (h : IntsAt w x xs) (hl : x.len ≤ 1048576) (bm n : Nat) (fr : Nat → Int) (ho : OwnsIdx w bm n fr) :
    Calls Try.prog 11 #[.slice x.oa x.len x.cap, .map (some bm)] w fun e w' => e = .returned (.bool (allIn fr n xs x.len)) ∧ w' = w := by
  have H : Hid (IntsAt w x xs) := h
  have HO : Hid (OwnsIdx w bm n fr) := ho
  clear h ho
  go_enter Try.func11, Try.ntmps11
  go_wp2
  go_loop [10] (fun t => ∃ k : Nat, t = .int .i64 k ∧ k ≤ x.len ∧ ∀ i, i < k → (lastIdx fr n (xs i)).isSome = true) (fun t => x.len - (intOf t).toNat)
  case atStart => exact ⟨0, rfl, Nat.zero_le _, fun i hi => absurd hi (Nat.not_lt_zero _)⟩
  case round =>
    obtain ⟨k, rfl, hk, ha⟩ := hrel
    have HA : Hid (∀ i, i < k → (lastIdx fr n (xs i)).isSome = true) := ha
    clear ha
    by_cases hlt : k < x.len
    · have hi := H.out.ok.i22 hlt
      have hc := H.out.cell k hlt
      have hrun := HO.out.look (H.out.wf k hlt)
      cases hb : (lastIdx fr n (xs k)).isSome with
      | true =>
        have HB : Hid ((lastIdx fr n (xs k)).isSome = true) := hb
        rw [hb] at hrun
        clear hb
        go_wp2
        go_round
        case rel =>
          refine ⟨k + 1, by go_num, by omega, ?_⟩
          intro i hi
          by_cases hik : i < k
          · exact HA.out i hik
          · have : i = k := by omega
            subst this; exact HB.out
        case measure => simp [intOf]; omega
      | false =>
        have HF : Hid (allIn fr n xs x.len = false) := by
          show _ = _
          rw [← Bool.not_eq_true, allIn_iff]
          intro h2
          have := h2 k hlt
          rw [hb] at this
          cases this
        rw [hb] at hrun
        clear hb
        go_wp2
        go_ret
        exact ⟨by rw [HF.out]; rfl, rfl⟩
    · have HT : Hid (allIn fr n xs x.len = true) := (allIn_iff fr n xs x.len).2 (fun i hi => HA.out i (by omega))
      go_wp2
      go_ret
      exact ⟨by rw [HT.out]; rfl, rfl⟩

end Go.Proofs.Qxb6601307a
