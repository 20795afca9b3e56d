/-
  THE WALKS that FnReadSetAddExact wants beside the others: rsProbe, her zzBytes, ZZNewReadSet with the map on; a row of bools in memory.
-/
import Derived.Test.Qxb6602432aRsFields
set_option linter.unusedVariables false
namespace Go.Proofs.Qxb6602432a
open Go.RowKit Go.Maps

/-- the k-th probe -/
def pv (few ss : Nat → ByteArray) (len : Nat) (name : ByteArray) (k : Nat) : ByteArray := if k < 8 then few k else if k - 8 < len then ss (k - 8) else name

/-- an array of eight strings, as a value, written out -/
abbrev agg8 (few : Nat → ByteArray) : Value := .agg #[.string (few 0), .string (few 1), .string (few 2), .string (few 3), .string (few 4), .string (few 5), .string (few 6), .string (few 7)]

set_option maxRecDepth 100000 in
set_option maxHeartbeats 400000 in
theorem probe19 (w : World) (few ss : Nat → ByteArray) (oa : Option Addr) (len cap : Nat) (name : ByteArray) (k : Nat) (h : StrsAt w oa len ss) (hlen : len ≤ 1048576) (hk : k ≤ 1048600) :
    Calls Try.prog 19 #[agg8 few, .slice oa len cap, .string name, .int .i64 k] w fun e w' => e = .returned (.string (pv few ss len name k)) ∧ Kept (fun _ => False) w w' := by
  have HA : Hid (ArrB (w.alloc (.cells #[.string (few 0), .string (few 1), .string (few 2), .string (few 3), .string (few 4), .string (few 5), .string (few 6), .string (few 7)] 24)) w.heap.size few) := ArrB.made w few
  have HST : Hid (StrsAt (w.alloc (.cells #[.string (few 0), .string (few 1), .string (few 2), .string (few 3), .string (few 4), .string (few 5), .string (few 6), .string (few 7)] 24)) oa len ss) := h.kept ((Kept.refl (fun _ => False) w).alloc _) (fun _ _ h => h)
  have HKP : Hid (Kept (fun _ => False) w (w.alloc (.cells #[.string (few 0), .string (few 1), .string (few 2), .string (few 3), .string (few 4), .string (few 5), .string (few 6), .string (few 7)] 24))) := (Kept.refl (fun _ => False) w).alloc _
  clear h
  by_cases h8 : k < 8
  · have HV : Hid (pv few ss len name k = few k) := by show _ = _; unfold pv; rw [if_pos h8]
    have hc := HA.out.cell k h8
    rw [HV.out]
    have h8' : (k : Int) < 8 := by omega
    go_enter Try.func19, Try.ntmps19
    go_wp2
    go_ret
    exact ⟨rfl, HKP.out⟩
  · by_cases hl : k - 8 < len
    · have HV : Hid (pv few ss len name k = ss (k - 8)) := by show _ = _; unfold pv; rw [if_neg h8, if_pos hl]
      rw [HV.out]
      have hi := HST.out.index hl cap
      have hc := HST.out.cell hl
      have he : ((k - 8 : Nat) : Int) = (k : Int) - 8 := by omega
      rw [he] at hi
      clear he
      go_enter Try.func19, Try.ntmps19
      go_wp2
      go_ret
      exact ⟨rfl, HKP.out⟩
    · have HV : Hid (pv few ss len name k = name) := by show _ = _; unfold pv; rw [if_neg h8, if_neg hl]
      rw [HV.out]
      go_enter Try.func19, Try.ntmps19
      go_wp2
      go_ret
      exact ⟨rfl, HKP.out⟩

/-- what zzBytes says of all five arguments -/
def ZzPost3 (w w' : World) (few : Nat → ByteArray) (len : Nat) (ss : Nat → ByteArray) (x : ByteArray) (e : Ending) : Prop :=
  ∃ r, e = .returned (.bool r) ∧ Kept (fun _ => False) w w' ∧ (r = true → (∀ k, k < 8 → (few k).size ≤ 1048576) ∧ Small len ss ∧ x.size ≤ 1048576)

set_option maxRecDepth 100000 in
set_option maxHeartbeats 1000000 in
theorem zz14 (w : World) (few ss : Nat → ByteArray) (n : Int) (on : Bool) (oa : Option Addr) (len cap : Nat) (x : ByteArray) (h : StrsAt w oa len ss) (hlm : len ≤ maxLen) (hx : x.size ≤ maxLen) (hss : ∀ k, k < len → (ss k).size ≤ maxLen) (hfw : ∀ k, k < 8 → (few k).size ≤ maxLen) :
    Calls Try.prog 14 #[agg8 few, .int .i64 n, .bool on, .slice oa len cap, .string x] w fun e w' => ZzPost3 w w' few len ss x e := by
  unfold maxLen at hlm hx
  have HS : Hid (∀ k, k < len → (ss k).size ≤ maxLen) := hss
  have HF : Hid (∀ k, k < 8 → (few k).size ≤ maxLen) := hfw
  obtain ⟨w1, HW⟩ : ∃ w1, Hid (w1 = w.alloc (.cells #[.string (few 0), .string (few 1), .string (few 2), .string (few 3), .string (few 4), .string (few 5), .string (few 6), .string (few 7)] 24)) := ⟨_, rfl⟩
  have HA : Hid (ArrB w1 w.heap.size few) := by rw [HW.out]; exact ArrB.made w few
  have HST : Hid (StrsAt w1 oa len ss) := by rw [HW.out]; exact h.kept ((Kept.refl (fun _ => False) w).alloc _) (fun _ _ h => h)
  have HKP : Hid (Kept (fun _ => False) w w1) := by rw [HW.out]; exact (Kept.refl (fun _ => False) w).alloc _
  clear h hss hfw
  go_enter Try.func14, Try.ntmps14
  go_wp2
  rw [← HW.out]
  go_loop [11, 12] (fun z t => ∃ k zn : Nat, t = .int .i64 k ∧ k ≤ 8 ∧ z = .int .i64 zn ∧ zn ≤ 1048576 ∧ ∀ i, i < k → (few i).size ≤ 1048576) (fun _ t => 8 - (intOf t).toNat)
  case atStart => exact ⟨0, 0, rfl, by omega, rfl, by omega, fun i hi => absurd hi (Nat.not_lt_zero _)⟩
  case round =>
    obtain ⟨k, zn, rfl, hk, rfl, hzn, ha⟩ := hrel
    have HFA : Hid (∀ i, i < k → (few i).size ≤ 1048576) := ha
    clear ha
    by_cases h8 : k < 8
    · have hc := HA.out.cell k h8
      have h8' : (k : Int) < 8 := by omega
      by_cases h1 : (few k).size ≤ 1048576
      · by_cases h2 : zn + (few k).size ≤ 1048576
        · go_wp2
          go_round
          case rel =>
            refine ⟨k + 1, zn + (few k).size, by go_num, by omega, by go_num, by omega, ?_⟩
            intro i hi
            by_cases hik : i < k
            · exact HFA.out i hik
            · have : i = k := by omega
              rw [this]; exact h1
          case measure => simp [intOf]; omega
        · go_wp2
          go_ret
          exact ⟨false, rfl, HKP.out, fun h => by cases h⟩
      · have hm := HF.out k h8
        unfold maxLen at hm
        go_wp2
        go_ret
        exact ⟨false, rfl, HKP.out, fun h => by cases h⟩
    · have hk8 : k = 8 := by omega
      subst hk8
      by_cases hl : len ≤ 1048576
      · by_cases hl2 : zn + len ≤ 1048576
        · go_wp2
          go_loop [11, 13] (fun z t => ∃ k' zn' : Nat, t = .int .i64 k' ∧ k' ≤ len ∧ z = .int .i64 zn' ∧ zn' ≤ 1048576 ∧ ∀ i, i < k' → (ss i).size ≤ 1048576) (fun _ t => len - (intOf t).toNat)
          case atStart => exact ⟨0, zn + len, rfl, Nat.zero_le _, by go_num, hl2, fun i hi => absurd hi (Nat.not_lt_zero _)⟩
          case round =>
            obtain ⟨k', zn', rfl, hk', rfl, hzn', ha⟩ := hrel
            have HSA : Hid (∀ i, i < k' → (ss i).size ≤ 1048576) := ha
            clear ha
            by_cases hlt : k' < len
            · have hi := HST.out.index hlt cap
              have hc := HST.out.cell hlt
              by_cases h1 : (ss k').size ≤ 1048576
              · by_cases h2 : zn' + (ss k').size ≤ 1048576
                · go_wp2
                  go_round
                  case rel =>
                    refine ⟨k' + 1, zn' + (ss k').size, by go_num, by omega, by go_num, by omega, ?_⟩
                    intro i hi
                    by_cases hik : i < k'
                    · exact HSA.out i hik
                    · have : i = k' := by omega
                      rw [this]; exact h1
                  case measure => simp [intOf]; omega
                · go_wp2
                  go_ret
                  exact ⟨false, rfl, HKP.out, fun h => by cases h⟩
              · have hm := HS.out k' hlt
                unfold maxLen at hm
                go_wp2
                go_ret
                exact ⟨false, rfl, HKP.out, fun h => by cases h⟩
            · by_cases h3 : x.size ≤ 1048576
              · by_cases h4 : zn' + x.size ≤ 1048576
                · go_wp2
                  go_ret
                  exact ⟨true, rfl, HKP.out, fun _ => ⟨HFA.out, ⟨hl, fun i hi => HSA.out i (by omega)⟩, h3⟩⟩
                · go_wp2
                  go_ret
                  exact ⟨false, rfl, HKP.out, fun h => by cases h⟩
              · go_wp2
                go_ret
                exact ⟨false, rfl, HKP.out, fun h => by cases h⟩
        · go_wp2
          go_ret
          exact ⟨false, rfl, HKP.out, fun h => by cases h⟩
      · go_wp2
        go_ret
        exact ⟨false, rfl, HKP.out, fun h => by cases h⟩

/-- the names of a slice, as a list -/
def listS (ss : Nat → ByteArray) (k : Nat) : List ByteArray := fewL ss k

/-- what ZZNewReadSet hands back, the map on: a new set whose map holds the keys -/
def NewOn (w w' : World) (few : Nat → ByteArray) (n : Int) (len : Nat) (ss : Nat → ByteArray) (e : Ending) : Prop :=
  ∃ b bm, e = .returned (.pointer (some ⟨b, 0, none⟩)) ∧ RsB w' b few n (some bm) ∧ OwnsL w' bm (fewL ss len) ∧ w.heap.size ≤ b ∧ b ≤ bm ∧ Kept (fun _ => False) w w'

set_option maxRecDepth 100000 in
set_option maxHeartbeats 1000000 in
theorem new17_on (w : World) (few ss : Nat → ByteArray) (n : Int) (oa : Option Addr) (len cap : Nat) (h : StrsAt w oa len ss) (hlen : len ≤ 1048576) (hss : ∀ k, k < len → (ss k).size ≤ 1048576) :
    Calls Try.prog 17 #[agg8 few, .int .i64 n, .bool true, .slice oa len cap] w fun e w' => NewOn w w' few n len ss e := by
  have HST : Hid (StrsAt w oa len ss) := h
  have HS : Hid (∀ k, k < len → (ss k).size ≤ 1048576) := hss
  have hmm := makeHint
  clear h hss
  go_enter Try.func17, Try.ntmps17
  go_wp2
  go_loopw [10] (fun t wr => ∃ k : Nat, t = .int .i64 k ∧ k ≤ len ∧ RsB wr (w.heap.size + 1) few n (some (w.heap.size + 1 + 1)) ∧ OwnsL wr (w.heap.size + 1 + 1) (fewL ss k) ∧ Kept (fun _ => False) w wr) (fun t _ => len - (intOf t).toNat)
  case atStart =>
    refine ⟨0, rfl, Nat.zero_le _, (RsB.made1 w _ few n _).alloc _, ?_, (((Kept.refl _ _).alloc _).alloc _).alloc _⟩
    have := OwnsL.made ((w.alloc (.cells #[.string (few 0), .string (few 1), .string (few 2), .string (few 3), .string (few 4), .string (few 5), .string (few 6), .string (few 7)] 24)).alloc (.cells (rsCells few n (some (w.heap.size + 1 + 1))) 45))
    rw [show ((w.alloc (.cells #[.string (few 0), .string (few 1), .string (few 2), .string (few 3), .string (few 4), .string (few 5), .string (few 6), .string (few 7)] 24)).alloc (.cells (rsCells few n (some (w.heap.size + 1 + 1))) 45)).heap.size = w.heap.size + 1 + 1 by simp] at this
    exact this
  case round =>
    obtain ⟨k, rfl, hk, hR, hO, hKp⟩ := hrel
    have HR : Hid (RsB wr (w.heap.size + 1) few n (some (w.heap.size + 1 + 1))) := hR
    have HO : Hid (OwnsL wr (w.heap.size + 1 + 1) (fewL ss k)) := hO
    have HK : Hid (Kept (fun _ => False) w wr) := hKp
    have g9 := hR.map
    have hne := hO.ne hR
    clear hR hO hKp
    by_cases hlt : k < len
    · have hst := HST.out.kept HK.out (fun _ _ h => h)
      have hi := hst.index hlt cap
      have hc := hst.cell hlt
      clear hst
      have hlt' : (k : Int) < len := by omega
      have hsm : (ss k).size ≤ maxLen := by have := HS.out k hlt; unfold maxLen; omega
      have hO2 : OwnsL wr.drew (w.heap.size + 1 + 1) (fewL ss k) := HO.out.of_heap rfl
      obtain ⟨w1, hrun, hown1, hturn1⟩ := World.ownsMap.store hO2 law9 Try.underlying43 (by simp [fewL, maxLen]; omega) (key9 hsm) (plainElem_bool (H := Unit) Try.underlying4 true)
      have HOWN : Hid (OwnsL w1 (w.heap.size + 1 + 1) (fewL ss k ++ [ss k])) := OwnsL.stored hown1
      have HTURN : Hid (wr.drew.mapTurned w1 (w.heap.size + 1 + 1)) := hturn1
      clear hO2 hown1 hturn1 hsm
      go_wp2
      go_region
      go_wp2
      go_roundw
      case rel =>
        refine ⟨k + 1, by go_num, by omega, (HR.out.drew).turned HTURN.out hne, ?_, HK.out.drew.turned HTURN.out (fun h => absurd h (by omega))⟩
        rw [fewL_succ]
        exact HOWN.out
      case measure => simp [intOf]; omega
    · have hkl : k = len := by omega
      subst hkl
      go_wp2
      go_ret
      exact ⟨w.heap.size + 1, w.heap.size + 1 + 1, rfl, HR.out, HO.out, by omega, by omega, HK.out⟩

end Go.Proofs.Qxb6602432a
