/-
  THE WALKS of the parity model's two helpers.
-/
import Derived.Test.Qxb6602432aRows
import Derived.Test.Qxb6602432aParFacts
import Derived.WalkKit
import Derived.WalkSpells
import Derived.WalkLawsBesides
set_option linter.unusedVariables false
namespace Go.Proofs.Qxb6602432a
open Go.RowKit

/-- seAllQuote -/
theorem all27 (s : ByteArray) (j W : Nat) (q : UInt8) (zW zq : Int) (w : World) (hs : s.size ≤ 1048576) (hj : j + W ≤ s.size) (hW : zW = W) (hq : zq = q.toNat) :
    Calls Try.prog 27 #[.string s, .int .i64 j, .int .i64 zW, .int .u8 zq] w fun e w' => e = .returned (.bool (Se.pre q W ((Se.bs s).drop j))) ∧ w' = w := by
  subst hW
  have HQ : Hid (zq = q.toNat) := hq
  clear hq
  go_enter Try.func27, Try.ntmps27
  go_wp2
  go_loop [9] (fun t => ∃ k : Nat, t = .int .i64 k ∧ k ≤ W ∧ ∀ i (hi : i < k) (h2 : j + i < s.size), s[j + i] = q) (fun t => W - (intOf t).toNat)
  case atStart => exact ⟨0, rfl, by omega, fun i hi => absurd hi (by omega)⟩
  case round =>
    obtain ⟨k, rfl, hk, ha⟩ := hrel
    have HA : Hid _ := ha
    clear ha
    by_cases hlt : k < W
    · have hjk : j + k < s.size := by omega
      cases hb : (s[j + k].toNat : Int) != zq with
      | true =>
        have hne : s[j + k] ≠ q := by
          rintro rfl
          rw [bne_iff_ne] at hb
          exact hb HQ.out.symm
        have HP : Hid _ := Se.pre_not s j W k q hj hlt hne
        clear hne
        go_wp2
        go_ret
        exact ⟨by rw [HP.out]; rfl, rfl⟩
      | false =>
        have HE : Hid (s[j + k] = q) := Se.byte_yes q (z := zq) (beq_iff_eq.2 (bne_eq_false_iff_eq.1 hb)) HQ.out
        go_wp2
        go_round
        case rel =>
          refine ⟨k + 1, by go_num, by omega, ?_⟩
          intro i hi h2
          by_cases hik : i < k
          · exact HA.out i hik h2
          · have : i = k := by omega
            subst this
            exact HE.out
        case measure => simp [intOf]; omega
    · have HP : Hid _ := Se.pre_all s j W q hj (fun i hi => HA.out i (by omega) (by omega))
      clear HA
      go_wp2
      go_ret
      exact ⟨by rw [HP.out]; rfl, rfl⟩

/-- seOddSlashes -/
theorem odd28 (s : ByteArray) (st m : Nat) (z0 z : Int) (w : World) (hs : s.size ≤ 1048576) (hj : st + m ≤ s.size) (hz0 : z0 = st) (hz : z = (st : Int) + m) :
    Calls Try.prog 28 #[.string s, .int .i64 z0, .int .i64 z] w fun e w' => e = .returned (.bool (Se.oddAt (Se.bs s) st m)) ∧ w' = w := by
  subst hz0 hz
  obtain ⟨R, HR⟩ : ∃ R, Hid (Se.oddAt (Se.bs s) st m = R) := ⟨_, rfl⟩
  rw [HR.out]
  go_enter Try.func28, Try.ntmps28
  go_wp2
  go_loop [7, 8] (fun o t => ∃ (b : Bool) (p : Int) (r : Nat), o = .bool b ∧ t = .int .i64 p ∧ p = (st : Int) + r - 1 ∧ r ≤ m ∧ R = (b ^^ Se.oddAt (Se.bs s) st r)) (fun _ t => (intOf t + 1).toNat)
  case atStart => exact ⟨false, _, m, rfl, rfl, rfl, by omega, by rw [HR.out]; simp⟩
  case round =>
    obtain ⟨b, p, r, rfl, rfl, hp, hr, hR⟩ := hrel
    have HR2 : Hid _ := hR
    clear hR HR
    by_cases h0 : (st : Int) ≤ p
    · obtain ⟨r', rfl⟩ : ∃ r', r = r' + 1 := ⟨r - 1, by omega⟩
      obtain rfl : p = ((st + r' : Nat) : Int) := by omega
      clear hp
      have hlt : st + r' < s.size := by omega
      cases hb : (s[st + r'].toNat : Int) == 92 with
      | true =>
        have HO : Hid _ := Se.odd_yes s st r' hlt (Se.byte_yes 92 hb rfl)
        go_wp2
        go_round
        case rel =>
          refine ⟨!b, ((st + r' : Nat) : Int) - 1, r', rfl, by go_num, by omega, by omega, ?_⟩
          rw [HR2.out, HO.out]; cases b <;> simp
        case measure => simp [intOf]; omega
      | false =>
        have HO : Hid _ := Se.odd_no s st r' hlt (Se.byte_no 92 hb rfl)
        have HF : Hid (R = b) := by show _ = _; rw [HR2.out, HO.out]; simp
        clear HO HR2
        go_wp2
        go_ret
        exact ⟨by rw [HF.out]; rfl, rfl⟩
    · have HF : Hid (R = b) := by
        show _ = _
        have : r = 0 := by omega
        rw [HR2.out, this]; simp [Se.oddAt]
      clear HR2 hp
      go_wp2
      go_ret
      exact ⟨by rw [HF.out]; rfl, rfl⟩

end Go.Proofs.Qxb6602432a
