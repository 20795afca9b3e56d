/-
  THE WALK of zzClonePulls.
-/
import Derived.Test.Qxb6601307aClone
import Derived.Deep.RegionHeld3
set_option linter.unusedVariables false
namespace Go.Proofs.Qxb6601307a
open Go.RowKit Go.Maps

/-- the cells of rows of three -/
def cP (ps : Nat → PullR) : Nat → Value := fun i => match i % 3 with | 0 => .int .i64 (ps (i / 3)).frm | 1 => .slice (ps (i / 3)).q.oa (ps (i / 3)).q.len (ps (i / 3)).q.cap | _ => .slice (ps (i / 3)).a.oa (ps (i / 3)).a.len (ps (i / 3)).a.cap

theorem cP0 (ps : Nat → PullR) (k : Nat) : cP ps (k * 3) = .int .i64 (ps k).frm := by unfold cP; rw [show k * 3 % 3 = 0 by omega, show k * 3 / 3 = k by omega]; rfl
theorem cP1 (ps : Nat → PullR) (k : Nat) : cP ps (k * 3 + 1) = .slice (ps k).q.oa (ps k).q.len (ps k).q.cap := by unfold cP; rw [show (k * 3 + 1) % 3 = 1 by omega, show (k * 3 + 1) / 3 = k by omega]; rfl
theorem cP2 (ps : Nat → PullR) (k : Nat) : cP ps (k * 3 + 2) = .slice (ps k).a.oa (ps k).a.len (ps k).a.cap := by unfold cP; rw [show (k * 3 + 2) % 3 = 2 by omega, show (k * 3 + 2) / 3 = k by omega]; rfl

theorem make25 (w : World) (n : Nat) (hn : n ≤ 1048576) : (Instr.makeSlice 25 (.int .i64 n) (.int .i64 n)).run Try.prog w = .ok (.slice (some ⟨w.heap.size, 0, none⟩) n n) (w.alloc (.cells (madeCells (Value.agg #[.int .i64 0, .slice none 0 0, .slice none 0 0]).cells (n * 3)) 45)) := make_run Try.underlying25 (by kernel_rfl) (bytes := 56) (by omega) w n hn

/-- row p', in w', is row p in new memory (from block B on) -/
structure PSame (B : Nat) (w' : World) (p p' : PullR) : Prop where
  frm : p'.frm = p.frm
  ql : p'.q.len = p.q.len
  al : p'.a.len = p.a.len
  qs : StrsAt w' p'.q p.qs
  an : StrsAt w' p'.a p.an
  qb : 0 < p.q.len → B ≤ p'.q.b
  ab : 0 < p.a.len → B ≤ p'.a.b
  qq : p'.qs = p.qs
  aa : p'.an = p.an

theorem PSame.kept {S : Nat → Prop} {B : Nat} {w w' : World} {p p' : PullR} (h : PSame B w p p') (hk : Kept S w w') (hq : 0 < p.q.len → ¬ S p'.q.b) (ha : 0 < p.a.len → ¬ S p'.a.b) : PSame B w' p p' :=
  ⟨h.frm, h.ql, h.al, h.qs.kept hk (fun hl => hq (by rw [← h.ql]; exact hl)), h.an.kept hk (fun hl => ha (by rw [← h.al]; exact hl)), h.qb, h.ab, h.qq, h.aa⟩

/-- what the clone hands back -/
def Clo44 (w w' : World) (x : Sl) (ps : Nat → PullR) (e : Ending) : Prop :=
  ∃ oa' cap' b' ps', e = .returned (.slice oa' x.len cap') ∧ PullAt w' ⟨oa', x.len, cap', b', 0⟩ ps' ∧ (∀ k, k < x.len → PSame w.heap.size w' (ps k) (ps' k)) ∧ (0 < x.len → w.heap.size ≤ b') ∧ New w w'

theorem cell_other {w : World} {g i b j : Nat} (h : b ≠ g) (v : Value) : (w.setCell ⟨g, i, none⟩ v).cell? ⟨b, j, none⟩ = w.cell? ⟨b, j, none⟩ := World.cell?_of_block (Below.heap_setCell w ⟨g, i, none⟩ v b h)

def updP (ps : Nat → PullR) (k : Nat) (p : PullR) : Nat → PullR := fun i => if i = k then p else ps i

set_option maxRecDepth 100000 in
set_option maxHeartbeats 2000000 in
theorem clone44 (w : World) (x : Sl) (ps : Nat → PullR) (h : PullAt w x ps) (hl : x.len ≤ 1048576) (hq : ∀ k, k < x.len → (ps k).q.len ≤ 1048576) (ha : ∀ k, k < x.len → (ps k).a.len ≤ 1048576) :
    Calls Try.prog 44 #[.slice x.oa x.len x.cap] w fun e w' => Clo44 w w' x ps e := by
  have heq := eqNil 25 Try.underlying25
  have H : Hid (PullAt w x ps) := h
  have HQL : Hid (∀ k, k < x.len → (ps k).q.len ≤ 1048576) := hq
  have HAL : Hid (∀ k, k < x.len → (ps k).a.len ≤ 1048576) := ha
  clear h hq ha
  obtain ⟨oa, len, cap, b, o⟩ := x
  cases oa with
  | none =>
    have h0 : len = 0 := H.out.ok.nil rfl
    subst h0
    go_enter Try.func44, Try.ntmps44
    go_wp2
    go_ret
    exact ⟨none, 0, 0, ps, rfl, ⟨nilSl_ok, fun k hk => absurd hk (Nat.not_lt_zero _), fun k hk => absurd hk (Nat.not_lt_zero _), fun k hk => absurd hk (Nat.not_lt_zero _), fun k hk => absurd hk (Nat.not_lt_zero _), fun k hk => absurd hk (Nat.not_lt_zero _), fun k hk => absurd hk (Nat.not_lt_zero _)⟩, fun k hk => absurd hk (Nat.not_lt_zero _), fun h => absurd h (Nat.lt_irrefl _), Kept.refl _ _⟩
  | some a =>
    have hmk := fun w => make25 w len hl
    have hl' : len ≤ 1048576 := hl
    clear hl
    go_enter Try.func44, Try.ntmps44
    go_wp2
    go_loopw [12] (fun t wr => ∃ k : Nat, t = .int .i64 k ∧ k ≤ len ∧ ∃ ps', Row wr w.heap.size 45 (len * 3) (k * 3) (cP ps') ∧ (∀ i, i < k → PSame (w.heap.size + 1) wr (ps i) (ps' i)) ∧ w.heap.size + 1 ≤ wr.heap.size ∧ New w wr) (fun t _ => len - (intOf t).toNat)
    case atStart => exact ⟨0, rfl, Nat.zero_le _, ps, (Row.made w 45 (len * 3) _ (by simp [size_madeCells]) _).congr0 (K := 0 * 3) (Nat.zero_mul _), fun i hi => absurd hi (Nat.not_lt_zero _), by simp, (Kept.refl _ _).alloc _⟩
    case round =>
      obtain ⟨k, rfl, hk, ps', hR, hS, hsz, hK⟩ := hrel
      have HR : Hid (Row wr w.heap.size 45 (len * 3) (k * 3) (cP ps')) := hR
      have HS : Hid (∀ i, i < k → PSame (w.heap.size + 1) wr (ps i) (ps' i)) := hS
      have HK : Hid (New w wr) := hK
      clear hR hK hS
      by_cases hlt : k < len
      · have HW : Hid (PullAt wr ⟨some a, len, cap, b, o⟩ ps) := H.out.kept HK.out (fun _ h => h) (fun _ _ _ h => h) (fun _ _ _ h => h)
        have hi := HW.out.ok.i25 (k := k) hlt
        have hc0 := HW.out.c0 k hlt
        have hc1 := HW.out.c1 k hlt
        have hc2 := HW.out.c2 k hlt
        obtain ⟨v0, hn0⟩ := HR.out.cell (i := k * 3) (by omega)
        obtain ⟨v1, hn1⟩ := HR.out.cell (i := k * 3 + 1) (by omega)
        obtain ⟨v2, hn2⟩ := HR.out.cell (i := k * 3 + 2) (by omega)
        have hz0 := HR.out.free (k * 3)
        have hz1 := HR.out.free (k * 3 + 1)
        have hz2 := HR.out.free (k * 3 + 2)
        have hlt' : (k : Int) < len := by omega
        have HQ : Hid (StrsAt wr.drew (ps k).q (ps k).qs) := (HW.out.q k hlt).kept ((Kept.refl (fun _ => False) wr).drew) (fun _ h => h)
        have HA : Hid (StrsAt wr.drew (ps k).a (ps k).an) := (HW.out.a k hlt).kept ((Kept.refl (fun _ => False) wr).drew) (fun _ h => h)
        have HWA : Hid (PullAt wr.drew ⟨some a, len, cap, b, o⟩ ps) := HW.out.kept ((Kept.refl (fun _ => False) wr).drew) (fun _ h => h) (fun _ _ _ h => h) (fun _ _ _ h => h)
        have HRA : Hid (Row wr.drew w.heap.size 45 (len * 3) (k * 3) (cP ps')) := HR.out.kept ((Kept.refl (fun _ => False) wr).drew) (fun h => h)
        go_wp2
        have hne : b ≠ w.heap.size := by
          have := World.block_lt_of_cell? w _ (H.out.c0 k hlt)
          have h2 : b < w.heap.size := this
          omega
        go_region_held3 (fun W => W.cell? ⟨b, o + k * 3, none⟩ = some (.int .i64 (ps k).frm) ∧ W.cell? ⟨b, o + k * 3 + 1, none⟩ = some (.slice (ps k).q.oa (ps k).q.len (ps k).q.cap) ∧ W.cell? ⟨b, o + k * 3 + 2, none⟩ = some (.slice (ps k).a.oa (ps k).a.len (ps k).a.cap)) (first | exact ⟨hc0, hc1, hc2⟩ | exact ⟨hc0B, hc1B, hc2B⟩ | exact ⟨hc0C, hc1C, hc2C⟩ | (refine ⟨?_, ?_, ?_⟩ <;> (rw [cell_other hne, cell_other hne, cell_other hne]; assumption))) (first
          | (go_at_call_of 49 ((ps k).q.oa); refine (clone49 _ (ps k).q (ps k).qs ?_ (HQL.out k hlt)).mono ?_; exact HQ.out; rintro e w1 ⟨oq, cq, bq, rfl, hsq, hbq, hkq⟩; have HKQ : Hid (New wr.drew w1) := hkq; have HSQ : Hid (StrsAt w1 ⟨oq, (ps k).q.len, cq, bq, 0⟩ (ps k).qs) := hsq; have HBQ : Hid (0 < (ps k).q.len → wr.drew.heap.size ≤ bq) := hbq; have HWB : Hid (PullAt w1 ⟨some a, len, cap, b, o⟩ ps) := HWA.out.kept hkq (fun _ h => h) (fun _ _ _ h => h) (fun _ _ _ h => h); have HRB : Hid (Row w1 w.heap.size 45 (len * 3) (k * 3) (cP ps')) := HRA.out.kept hkq (fun h => h); clear hkq hsq hbq; obtain ⟨y0, hn0B⟩ := HRB.out.cell (i := k * 3) (by omega); obtain ⟨y1, hn1B⟩ := HRB.out.cell (i := k * 3 + 1) (by omega); obtain ⟨y2, hn2B⟩ := HRB.out.cell (i := k * 3 + 2) (by omega); have hz0B := HRB.out.free (k * 3); have hz1B := HRB.out.free (k * 3 + 1); have hz2B := HRB.out.free (k * 3 + 2); have hc0B := HWB.out.c0 k hlt; have hc1B := HWB.out.c1 k hlt; have hc2B := HWB.out.c2 k hlt)
          | (go_at_call_of 49 ((ps k).a.oa); refine (clone49 _ (ps k).a (ps k).an ?_ (HAL.out k hlt)).mono ?_; exact (HA.out.kept HKQ.out (fun _ h => h)); rintro e w2 ⟨oa2, ca2, ba2, rfl, hsa, hba, hka⟩; have HKA : Hid (New w1 w2) := hka; have HSA : Hid (StrsAt w2 ⟨oa2, (ps k).a.len, ca2, ba2, 0⟩ (ps k).an) := hsa; have HBA : Hid (0 < (ps k).a.len → w1.heap.size ≤ ba2) := hba; have HWC : Hid (PullAt w2 ⟨some a, len, cap, b, o⟩ ps) := HWB.out.kept hka (fun _ h => h) (fun _ _ _ h => h) (fun _ _ _ h => h); have HRC : Hid (Row w2 w.heap.size 45 (len * 3) (k * 3) (cP ps')) := HRB.out.kept hka (fun h => h); clear hka hsa hba; obtain ⟨y0, hn0C⟩ := HRC.out.cell (i := k * 3) (by omega); obtain ⟨y1, hn1C⟩ := HRC.out.cell (i := k * 3 + 1) (by omega); obtain ⟨y2, hn2C⟩ := HRC.out.cell (i := k * 3 + 2) (by omega); have hz0C := HRC.out.free (k * 3); have hz1C := HRC.out.free (k * 3 + 1); have hz2C := HRC.out.free (k * 3 + 2); have hc0C := HWC.out.c0 k hlt; have hc1C := HWC.out.c1 k hlt; have hc2C := HWC.out.c2 k hlt))
        go_wp2
        go_roundw
        case rel =>
          have k1 : New wr w2 := ((Kept.refl (fun _ => False) wr).drew.trans HKQ.out).trans HKA.out
          have k3 : Kept (· = w.heap.size) w2 (((w2.setCell ⟨w.heap.size, k * 3, none⟩ (.int .i64 (ps k).frm)).setCell ⟨w.heap.size, k * 3 + 1, none⟩ (.slice oq (ps k).q.len cq)).setCell ⟨w.heap.size, k * 3 + 2, none⟩ (.slice oa2 (ps k).a.len ca2)) :=
            (((Kept.refl (· = w.heap.size) w2).setNew (p := ⟨w.heap.size, k * 3, none⟩) (fun _ => rfl) _).setNew (p := ⟨w.heap.size, k * 3 + 1, none⟩) (fun _ => rfl) _).setNew (p := ⟨w.heap.size, k * 3 + 2, none⟩) (fun _ => rfl) _
          have k4 : New w (((w2.setCell ⟨w.heap.size, k * 3, none⟩ (.int .i64 (ps k).frm)).setCell ⟨w.heap.size, k * 3 + 1, none⟩ (.slice oq (ps k).q.len cq)).setCell ⟨w.heap.size, k * 3 + 2, none⟩ (.slice oa2 (ps k).a.len ca2)) :=
            (((HK.out.trans k1).setNew (p := ⟨w.heap.size, k * 3, none⟩) (fun h => absurd h (Nat.lt_irrefl _)) _).setNew (p := ⟨w.heap.size, k * 3 + 1, none⟩) (fun h => absurd h (Nat.lt_irrefl _)) _).setNew (p := ⟨w.heap.size, k * 3 + 2, none⟩) (fun h => absurd h (Nat.lt_irrefl _)) _
          have hs1 : wr.heap.size ≤ w1.heap.size := HKQ.out.size
          have hs2 : w1.heap.size ≤ w2.heap.size := HKA.out.size
          have hbq : 0 < (ps k).q.len → wr.heap.size ≤ bq := HBQ.out
          have hba : 0 < (ps k).a.len → w1.heap.size ≤ ba2 := HBA.out
          refine ⟨k + 1, by go_num, by omega, updP ps' k ⟨(ps k).frm, ⟨oq, (ps k).q.len, cq, bq, 0⟩, (ps k).qs, ⟨oa2, (ps k).a.len, ca2, ba2, 0⟩, (ps k).an⟩, ?_, ?_, ?_, k4⟩
          · have r0 : Row w2 w.heap.size 45 (len * 3) (k * 3) (cP (updP ps' k ⟨(ps k).frm, ⟨oq, (ps k).q.len, cq, bq, 0⟩, (ps k).qs, ⟨oa2, (ps k).a.len, ca2, ba2, 0⟩, (ps k).an⟩)) :=
              HRC.out.congr (fun i hi => by unfold cP updP; rw [if_neg (show i / 3 ≠ k by omega)])
            have r1 := r0.set (v := .int .i64 (ps k).frm) (by omega) (by rw [cP0]; simp [updP])
            have r2 := r1.set (v := .slice oq (ps k).q.len cq) (by omega) (by rw [cP1]; simp [updP])
            have r3 := r2.set (v := .slice oa2 (ps k).a.len ca2) (by omega) (by rw [cP2]; simp [updP])
            exact r3.congrK (by omega)
          · intro i hi
            by_cases hik : i = k
            · subst hik
              have e : updP ps' i ⟨(ps i).frm, ⟨oq, (ps i).q.len, cq, bq, 0⟩, (ps i).qs, ⟨oa2, (ps i).a.len, ca2, ba2, 0⟩, (ps i).an⟩ i = ⟨(ps i).frm, ⟨oq, (ps i).q.len, cq, bq, 0⟩, (ps i).qs, ⟨oa2, (ps i).a.len, ca2, ba2, 0⟩, (ps i).an⟩ := by simp [updP]
              rw [e]
              exact ⟨rfl, rfl, rfl, (HSQ.out.kept HKA.out (fun _ h => h)).kept k3 (fun hl h => by have := hbq hl; have h' : bq = w.heap.size := h; omega), HSA.out.kept k3 (fun hl h => by have := hba hl; have h' : ba2 = w.heap.size := h; omega), fun hl => by have := hbq hl; show _ ≤ bq; omega, fun hl => by have := hba hl; show _ ≤ ba2; omega, rfl, rfl⟩
            · have e : updP ps' k ⟨(ps k).frm, ⟨oq, (ps k).q.len, cq, bq, 0⟩, (ps k).qs, ⟨oa2, (ps k).a.len, ca2, ba2, 0⟩, (ps k).an⟩ i = ps' i := by simp [updP, hik]
              rw [e]
              have p1 := HS.out i (by omega)
              exact (p1.kept k1 (fun _ h => h) (fun _ h => h)).kept k3 (fun hl h => by have := p1.qb hl; have h' : (ps' i).q.b = w.heap.size := h; omega) (fun hl h => by have := p1.ab hl; have h' : (ps' i).a.b = w.heap.size := h; omega)
          · have := k3.size; omega
        case measure => simp [intOf]; omega
      · have hkl : k = len := by omega
        subst hkl
        go_wp2
        go_ret
        refine ⟨some ⟨w.heap.size, 0, none⟩, k, w.heap.size, ps', rfl, ⟨newSl_ok _ _, fun i hi => by rw [(HS.out i hi).frm]; exact H.out.wf i hi, fun i hi => ?_, fun i hi => ?_, fun i hi => ?_, fun i hi => ?_, fun i hi => ?_⟩, fun i hi => ?_, fun _ => Nat.le_refl _, HK.out⟩
        · rw [Nat.zero_add, ← cP0]; exact HR.out.get (by have : i < k := hi; omega)
        · rw [Nat.zero_add, ← cP1]; exact HR.out.get (by have : i < k := hi; omega)
        · rw [Nat.zero_add, ← cP2]; exact HR.out.get (by have : i < k := hi; omega)
        · rw [(HS.out i hi).qq]; exact (HS.out i hi).qs
        · rw [(HS.out i hi).aa]; exact (HS.out i hi).an
        · have p1 := HS.out i hi
          exact ⟨p1.frm, p1.ql, p1.al, p1.qs, p1.an, fun hl => by have := p1.qb hl; omega, fun hl => by have := p1.ab hl; omega, p1.qq, p1.aa⟩

end Go.Proofs.Qxb6601307a
