/-
  THE WALK of zzBuild.
-/
import Derived.Test.Qxb6601307aPlan
import Derived.Test.Qxb6601307aClone
import Derived.Deep.RegionHeld3
set_option linter.unusedVariables false
namespace Go.Proofs.Qxb6601307a
open Go.RowKit Go.Maps

/-- a map of maps whose inner maps lie below block hi -/
def MapsIn (w : World) (K : TypeId) (bm k hi : Nat) : Prop :=
  bm < hi ∧ ∃ D : DataW Unit, w.ownsMap Try.prog K mapElem bm k D ∧ ∀ f (b : Nat), D.atKey (.int .i64 f) .nil = .lit (.int .i64 (b : Int)) → b < hi ∧ ∃ D' : DataW Unit, w.ownsMap Try.prog 9 itemElem b k D'

theorem MapsM.toIn {w : World} {K : TypeId} {bm k : Nat} (h : MapsM w itemElem K bm k) : MapsIn w K bm k w.heap.size := by
  refine ⟨h.lt, ?_⟩
  obtain ⟨D, ho, hD⟩ := h
  refine ⟨D, ho, fun f b hb => ?_⟩
  obtain ⟨h1, D', h2⟩ := hD f b hb
  exact ⟨h2.lt, D', h2⟩

theorem MapsIn.kept {S : Nat → Prop} {w w' : World} {K : TypeId} {bm k hi : Nat} (h : MapsIn w K bm k hi) (hk : Kept S w w') (hs : ∀ b, b < hi → ¬ S b) : MapsIn w' K bm k hi := by
  obtain ⟨hb0, D, ho, hD⟩ := h
  refine ⟨hb0, D, owns_kept ho hk (hs bm hb0), fun f b hb => ?_⟩
  obtain ⟨h1, D', h2⟩ := hD f b hb
  exact ⟨h1, D', owns_kept h2 hk (hs b h1)⟩

/-- the plan, as zzBuild lays it out of I's rows -/
structure Built (w : World) (I : Inp) (bp b1 b2 b3 b5 gm gf hi : Nat) (bq ba : Nat → Nat) : Prop where
  plan : PlanB w bp (newSl gm I.m.len) (newSl gf I.f.len) b1 b2 b3 b5
  mem : IntsAt w (newSl gm I.m.len) I.mx
  frm : IntsAt w (newSl gf I.f.len) I.fx
  miss : MapsIn w 47 b1 I.s.len hi
  src : SrcM w b2 I.r.len I.rs
  pull : PullM w b3 I.p.len (fun k => (I.ps k).frm) bq
  rowB : ∀ j, j < I.p.len → PullB w (bq j) (I.ps j).q (ba j)
  rowL : ∀ j, j < I.p.len → OwnsL w (ba j) (fewL (I.ps j).an (I.ps j).a.len)
  o1 : hi ≤ b2
  o2 : b2 < b3
  o3 : b3 < bp
  o4 : ∀ j, j < I.p.len → bp < ba j ∧ ba j < bq j
  o5 : ∀ i j, i < j → j < I.p.len → bq i < ba j

def BuildPost (w w' : World) (I : Inp) (e : Ending) : Prop := ∃ bp b1 b2 b3 b5 gm gf hi bq ba, e = .returned (.pointer (some ⟨bp, 0, none⟩)) ∧ Built w' I bp b1 b2 b3 b5 gm gf hi bq ba ∧ w.heap.size ≤ bp ∧ gm < bp ∧ gf < bp ∧ New w w'

set_option maxRecDepth 100000 in
set_option maxHeartbeats 8000000 in
theorem build14 (I : Inp) (w : World) (h : I.In w) (hs : I.Small) : Calls Try.prog 14 I.args w fun e w' => BuildPost w w' I e := by
  have HI : Hid (I.In w) := h
  have hm := hs.m
  have hf := hs.f
  have hss := hs.s
  have hr := hs.r
  have hp := hs.p
  have hu := hs.u
  have HQ : Hid (∀ k, k < I.p.len → (I.ps k).q.len ≤ 1048576) := hs.q
  have HA : Hid (∀ k, k < I.p.len → (I.ps k).a.len ≤ 1048576) := hs.a
  have hmk1 := fun w => make88 w I.m.len hm
  have hmk2 := fun w => make88 w I.f.len hf
  have hmm := @run_makeMap Try.prog
  clear h hs
  go_enter Try.func14, Try.ntmps14
  go_wp2
  go_loopw [35] (fun t wr => ∃ k : Nat, t = .int .i64 k ∧ k ≤ I.m.len ∧ Row wr w.heap.size 47 (I.m.len * 1) (k * 1) (cI I.mx) ∧ New w wr) (fun t _ => I.m.len - (intOf t).toNat)
  case atStart => exact ⟨0, rfl, Nat.zero_le _, (Row.made w 47 (I.m.len * 1) _ (by simp [size_madeCells]) _).congr0 (K := 0 * 1) (Nat.zero_mul _), (Kept.refl _ _).alloc _⟩
  case round =>
    obtain ⟨k, rfl, hk, hR, hK⟩ := hrel
    have HR : Hid (Row wr w.heap.size 47 (I.m.len * 1) (k * 1) (cI I.mx)) := hR
    have HK : Hid (New w wr) := hK
    clear hR hK
    by_cases hlt : k < I.m.len
    · have hi := HI.out.m.ok.i22 hlt
      have hc := (HI.out.m.kept HK.out (fun _ h => h)).cell k hlt
      obtain ⟨v0, hn0⟩ := HR.out.cell (i := k) (by omega)
      have hz0 := HR.out.free k
      have hlt' : (k : Int) < I.m.len := by omega
      go_wp2
      go_roundw
      case rel => exact ⟨k + 1, by go_num, by omega, HR.out.set1 (by omega) rfl, HK.out.setNew (fun h => absurd h (Nat.lt_irrefl _)) _⟩
      case measure => simp [intOf]; omega
    · have hkl : k = I.m.len := by omega
      subst hkl
      have HM1 : Hid (IntsAt wr (newSl w.heap.size I.m.len) I.mx) := ⟨newSl_ok _ _, HI.out.m.wf, fun i hi => by rw [Nat.zero_add]; exact HR.out.get (by have : i < I.m.len := hi; omega)⟩
      have hg1 : w.heap.size < wr.heap.size := HR.out.lt
      have HI1 : Hid (I.In wr) := HI.out.new HK.out
      clear HR
      obtain ⟨w1, rfl⟩ : ∃ w1, w1 = wr := ⟨wr, rfl⟩
      go_wp2_with fail
      go_loopw [51] (fun t wr => ∃ k : Nat, t = .int .i64 k ∧ k ≤ I.f.len ∧ Row wr w1.heap.size 47 (I.f.len * 1) (k * 1) (cI I.fx) ∧ New w1 wr) (fun t _ => I.f.len - (intOf t).toNat)
      case atStart => exact ⟨0, rfl, Nat.zero_le _, (Row.made w1 47 (I.f.len * 1) _ (by simp [size_madeCells]) _).congr0 (K := 0 * 1) (Nat.zero_mul _), (Kept.refl _ _).alloc _⟩
      case round =>
        obtain ⟨k, rfl, hk2, hR, hK⟩ := hrel
        have HR : Hid (Row wr w1.heap.size 47 (I.f.len * 1) (k * 1) (cI I.fx)) := hR
        have HK2 : Hid (New w1 wr) := hK
        clear hR hK
        by_cases hlt2 : k < I.f.len
        · have hi := HI1.out.f.ok.i22 hlt2
          have hc := (HI1.out.f.kept HK2.out (fun _ h => h)).cell k hlt2
          obtain ⟨v0, hn0⟩ := HR.out.cell (i := k) (by omega)
          have hz0 := HR.out.free k
          have hlt' : (k : Int) < I.f.len := by omega
          go_wp2
          go_roundw
          case rel => exact ⟨k + 1, by go_num, by omega, HR.out.set1 (by omega) rfl, HK2.out.setNew (fun h => absurd h (Nat.lt_irrefl _)) _⟩
          case measure => simp [intOf]; omega
        · have hkl : k = I.f.len := by omega
          subst hkl
          have HF1 : Hid (IntsAt wr (newSl w1.heap.size I.f.len) I.fx) := ⟨newSl_ok _ _, HI1.out.f.wf, fun i hi => by rw [Nat.zero_add]; exact HR.out.get (by have : i < I.f.len := hi; omega)⟩
          have hg2 : w1.heap.size < wr.heap.size := HR.out.lt
          have HI2 : Hid (I.In wr) := HI1.out.new HK2.out
          have HM2 : Hid (IntsAt wr (newSl w.heap.size I.m.len) I.mx) := HM1.out.kept HK2.out (fun _ h => h)
          clear HR HI1 HM1
          obtain ⟨w2, rfl⟩ : ∃ w2, w2 = wr := ⟨wr, rfl⟩
          go_wp2_with fail
          go_loopw [65] (fun t wr => ∃ k : Nat, t = .int .i64 k ∧ k ≤ I.s.len ∧ MapsM wr itemElem 47 w2.heap.size k ∧ New w2 wr) (fun t _ => I.s.len - (intOf t).toNat)
          case atStart => exact ⟨0, rfl, Nat.zero_le _, MapsM.made w2 itemElem 47, (Kept.refl _ _).alloc _⟩
          case round =>
            obtain ⟨k, rfl, hk3, hM, hK⟩ := hrel
            have HM : Hid (MapsM wr itemElem 47 w2.heap.size k) := hM
            have HK3 : Hid (New w2 wr) := hK
            clear hM hK
            by_cases hlt3 : k < I.s.len
            · have HS3 : Hid (MissAt wr I.s I.ms) := HI2.out.s.kept HK3.out (fun _ h => h)
              have hi := HS3.out.ok.i23 hlt3
              have hc0 := HS3.out.c0 k hlt3
              have hc1 := HS3.out.c1 k hlt3
              have hc2 := HS3.out.c2 k hlt3
              have hc3 := HS3.out.c3 k hlt3
              have hc4 := HS3.out.c4 k hlt3
              have hc5 := HS3.out.c5 k hlt3
              have heql := fun w r => run_eql_map_nil (P := Try.prog) w 91 9 95 r Try.underlying91
              have HWF : Hid ((Lit.int .i64 (I.ms k).id).wf = true) := HS3.out.wf k hlt3
              have HSML : Hid ((I.ms k).obj.size ≤ maxLen) := HS3.out.small k hlt3
              have HM0 : Hid (MapsM (wr.alloc (.cells #[.int .i64 (I.ms k).id, .string (I.ms k).obj, .int .u64 (I.ms k).a, .int .u64 (I.ms k).b, .int .u64 (I.ms k).c, .int .u64 (I.ms k).d] 76)) itemElem 47 w2.heap.size k) := HM.out.kept ((Kept.refl (fun _ => False) wr).alloc _) (fun _ _ h => h)
              obtain ⟨m, hget, hm0⟩ := HM0.out.get law47 Try.underlying89 (zero91 _) (key47 HWF.out)
              have HG : Hid (∀ b, m = some b → w2.heap.size < b ∧ ∃ D' : DataW Unit, (wr.alloc (.cells #[.int .i64 (I.ms k).id, .string (I.ms k).obj, .int .u64 (I.ms k).a, .int .u64 (I.ms k).b, .int .u64 (I.ms k).c, .int .u64 (I.ms k).d] 76)).ownsMap Try.prog 9 itemElem b k D') := hm0
              clear hm0
              cases m with
              | none =>
                have hne : wr.heap.size ≠ w2.heap.size := by have := HM.out.lt; omega
                have hb0 : w2.heap.size < wr.heap.size := HM.out.lt
                have sz1 : (wr.alloc (.cells #[.int .i64 (I.ms k).id, .string (I.ms k).obj, .int .u64 (I.ms k).a, .int .u64 (I.ms k).b, .int .u64 (I.ms k).c, .int .u64 (I.ms k).d] 76)).heap.size = wr.heap.size + 1 := by simp
                have HM1 : Hid (MapsM ((wr.alloc (.cells #[.int .i64 (I.ms k).id, .string (I.ms k).obj, .int .u64 (I.ms k).a, .int .u64 (I.ms k).b, .int .u64 (I.ms k).c, .int .u64 (I.ms k).d] 76)).alloc (.map #[] 0)) itemElem 47 w2.heap.size k) := HM0.out.kept ((Kept.refl (fun _ => False) _).alloc _) (fun _ _ h => h)
                obtain ⟨D, hown, hD⟩ := HM1.out
                have hB0 : ((wr.alloc (.cells #[.int .i64 (I.ms k).id, .string (I.ms k).obj, .int .u64 (I.ms k).a, .int .u64 (I.ms k).b, .int .u64 (I.ms k).c, .int .u64 (I.ms k).d] 76)).alloc (.map #[] 0)).ownsMap Try.prog 9 itemElem (wr.heap.size + 1) 0 (.map [] : DataW Unit) := by
                  have := World.ownsMap_made (wr.alloc (.cells #[.int .i64 (I.ms k).id, .string (I.ms k).obj, .int .u64 (I.ms k).a, .int .u64 (I.ms k).b, .int .u64 (I.ms k).c, .int .u64 (I.ms k).d] 76)) Try.prog 9 itemElem
                  rw [sz1] at this
                  exact this
                obtain ⟨w3, hrun3, hown3, hturn3⟩ := hown.store law47 Try.underlying89 (by unfold maxLen; omega) (key47 HWF.out) (val := .map (some (wr.heap.size + 1))) (d := .lit (.int .i64 ((wr.heap.size + 1 : Nat) : Int))) (ps := []) rfl
                have HM3 : Hid (MapsM w3 itemElem 47 w2.heap.size (k + 1)) := MapsM.put hD hown.isMap hown3 hturn3 (by omega) (hB0.mono (Nat.zero_le _))
                have hB3 : w3.ownsMap Try.prog 9 itemElem (wr.heap.size + 1) k (.map [] : DataW Unit) := (owns_turned hB0 hturn3 (by omega)).mono (Nat.zero_le _)
                have k3 : Kept (· = w2.heap.size) wr w3 := (((Kept.refl (· = w2.heap.size) wr).alloc _).alloc _).turned hturn3 (fun _ => rfl)
                have k30 : Kept (· = w2.heap.size) (wr.alloc (.cells #[.int .i64 (I.ms k).id, .string (I.ms k).obj, .int .u64 (I.ms k).a, .int .u64 (I.ms k).b, .int .u64 (I.ms k).c, .int .u64 (I.ms k).d] 76)) w3 := ((Kept.refl (· = w2.heap.size) (wr.alloc (.cells #[.int .i64 (I.ms k).id, .string (I.ms k).obj, .int .u64 (I.ms k).a, .int .u64 (I.ms k).b, .int .u64 (I.ms k).c, .int .u64 (I.ms k).d] 76))).alloc _).turned hturn3 (fun _ => rfl)
                have row0 : (wr.alloc (.cells #[.int .i64 (I.ms k).id, .string (I.ms k).obj, .int .u64 (I.ms k).a, .int .u64 (I.ms k).b, .int .u64 (I.ms k).c, .int .u64 (I.ms k).d] 76)).heap[wr.heap.size]? = some (.cells #[.int .i64 (I.ms k).id, .string (I.ms k).obj, .int .u64 (I.ms k).a, .int .u64 (I.ms k).b, .int .u64 (I.ms k).c, .int .u64 (I.ms k).d] 76) := (MapKept.heap_alloc wr _).1
                have row3 := k30.at (k := wr.heap.size) hne row0
                have hr0 : w3.cell? ⟨wr.heap.size, 0, none⟩ = some (.int .i64 (I.ms k).id) := by simp [World.cell?, row3]
                have hr1 : w3.cell? ⟨wr.heap.size, 1, none⟩ = some (.string (I.ms k).obj) := by simp [World.cell?, row3]
                have hr2 : w3.cell? ⟨wr.heap.size, 2, none⟩ = some (.int .u64 (I.ms k).a) := by simp [World.cell?, row3]
                have hr3 : w3.cell? ⟨wr.heap.size, 3, none⟩ = some (.int .u64 (I.ms k).b) := by simp [World.cell?, row3]
                have hr4 : w3.cell? ⟨wr.heap.size, 4, none⟩ = some (.int .u64 (I.ms k).c) := by simp [World.cell?, row3]
                have hr5 : w3.cell? ⟨wr.heap.size, 5, none⟩ = some (.int .u64 (I.ms k).d) := by simp [World.cell?, row3]
                obtain ⟨w4, hrun4, hown4, hturn4⟩ := hB3.store law9 Try.underlying91 (by unfold maxLen; omega) (key9 HSML.out) (val := (.agg #[.int .u64 (I.ms k).a, .int .u64 (I.ms k).b, .int .u64 (I.ms k).c, .int .u64 (I.ms k).d])) (d := .nil) (ps := []) rfl
                have HM4 : Hid (MapsM w4 itemElem 47 w2.heap.size (k + 1)) := HM3.out.inner (by omega) hturn4 (Nat.le_refl _) hown4
                have HK4 : Hid (New w2 w4) := (HK3.out.trans (((Kept.refl (fun _ => False) wr).alloc _).alloc _)).turned hturn3 (fun h => absurd h (Nat.lt_irrefl _)) |>.turned hturn4 (fun h => absurd h (by omega))
                clear hown hD hB0 hown3 hB3 k3 k30 row0 row3 hown4 HG
                go_wp2_with fail
                go_roundw
                case rel => exact ⟨k + 1, by go_num, by omega, HM4.out, HK4.out⟩
                case measure => simp [intOf]; omega
              | some b =>
                obtain ⟨hbb, D', hB⟩ := HG.out b rfl
                have hne : wr.heap.size ≠ b := by
                  intro e
                  obtain ⟨es, clock, hx, _⟩ := hB
                  have row0 : (wr.alloc (.cells #[.int .i64 (I.ms k).id, .string (I.ms k).obj, .int .u64 (I.ms k).a, .int .u64 (I.ms k).b, .int .u64 (I.ms k).c, .int .u64 (I.ms k).d] 76)).heap[wr.heap.size]? = some (.cells #[.int .i64 (I.ms k).id, .string (I.ms k).obj, .int .u64 (I.ms k).a, .int .u64 (I.ms k).b, .int .u64 (I.ms k).c, .int .u64 (I.ms k).d] 76) := (MapKept.heap_alloc wr _).1
                  rw [e] at row0
                  rw [← e] at hx row0
                  rw [row0] at hx
                  cases hx
                obtain ⟨w4, hrun4, hown4, hturn4⟩ := hB.store law9 Try.underlying91 (by unfold maxLen; omega) (key9 HSML.out) (val := (.agg #[.int .u64 (I.ms k).a, .int .u64 (I.ms k).b, .int .u64 (I.ms k).c, .int .u64 (I.ms k).d])) (d := .nil) (ps := []) rfl
                have HM4 : Hid (MapsM w4 itemElem 47 w2.heap.size (k + 1)) := HM0.out.inner hbb hturn4 (by omega) hown4
                have HK4 : Hid (New w2 w4) := (HK3.out.trans ((Kept.refl (fun _ => False) wr).alloc _)).turned hturn4 (fun h => absurd h (by omega))
                clear hB hown4 HG
                go_wp2_with fail
                go_roundw
                case rel => exact ⟨k + 1, by go_num, by omega, HM4.out, HK4.out⟩
                case measure => simp [intOf]; omega
            · have hkl : k = I.s.len := by omega
              subst hkl
              have HMI : Hid (MapsIn wr 47 w2.heap.size I.s.len wr.heap.size) := HM.out.toIn
              have HI3 : Hid (I.In wr) := HI2.out.new HK3.out
              have HM3 : Hid (IntsAt wr (newSl w.heap.size I.m.len) I.mx) := HM2.out.kept HK3.out (fun _ h => h)
              have HF3 : Hid (IntsAt wr (newSl w1.heap.size I.f.len) I.fx) := HF1.out.kept HK3.out (fun _ h => h)
              have hb1 : w2.heap.size < wr.heap.size := HM.out.lt
              clear HM HI2 HM2 HF1
              obtain ⟨w3, rfl⟩ : ∃ w3, w3 = wr := ⟨wr, rfl⟩
              go_wp2_with fail
              go_loopw [101] (fun t wr => ∃ k : Nat, t = .int .i64 k ∧ k ≤ I.r.len ∧ SrcM wr w3.heap.size k I.rs ∧ New w3 wr) (fun t _ => I.r.len - (intOf t).toNat)
              case atStart => exact ⟨0, rfl, Nat.zero_le _, SrcM.made w3 _, (Kept.refl _ _).alloc _⟩
              case round =>
                obtain ⟨k, rfl, hk4, hM, hK⟩ := hrel
                have HSM : Hid (SrcM wr w3.heap.size k I.rs) := hM
                have HK4 : Hid (New w3 wr) := hK
                clear hM hK
                by_cases hlt4 : k < I.r.len
                · have HR4 : Hid (SrcAt wr I.r I.rs) := HI3.out.r.kept HK4.out (fun _ h => h)
                  have hi := HR4.out.ok.i24 hlt4
                  have hc0 := HR4.out.c0 k hlt4
                  have hc1 := HR4.out.c1 k hlt4
                  have HWF : Hid ((Lit.int .i64 (I.rs k).frm).wf = true) := HR4.out.wf k hlt4
                  have HSML : Hid ((I.rs k).obj.size ≤ maxLen) := HR4.out.small k hlt4
                  obtain ⟨D, hown, hD⟩ := HSM.out
                  have hown' : wr.drew.ownsMap Try.prog 9 (plainElem Try.prog 47) w3.heap.size k D := hown.drew
                  obtain ⟨w4, hrun, hown4, hturn4⟩ := hown'.store law9 Try.underlying96 (by unfold maxLen; omega) (key9 HSML.out) (plainElem_int Try.underlying47 HWF.out)
                  have HS4 : Hid (SrcM w4 w3.heap.size (k + 1) I.rs) := SrcM.step hD hown.isMap hown4
                  have HKN : Hid (New w3 w4) := HK4.out.drew.turned hturn4 (fun h => absurd h (Nat.lt_irrefl _))
                  clear hown hD hown' hown4
                  go_wp2_with fail
                  go_region
                  go_wp2_with fail
                  go_roundw
                  case rel => exact ⟨k + 1, by go_num, by omega, HS4.out, HKN.out⟩
                  case measure => simp [intOf]; omega
                · have hkl : k = I.r.len := by omega
                  subst hkl
                  have HI4 : Hid (I.In wr) := HI3.out.new HK4.out
                  have HM4 : Hid (IntsAt wr (newSl w.heap.size I.m.len) I.mx) := HM3.out.kept HK4.out (fun _ h => h)
                  have HF4 : Hid (IntsAt wr (newSl w1.heap.size I.f.len) I.fx) := HF3.out.kept HK4.out (fun _ h => h)
                  have HMI4 : Hid (MapsIn wr 47 w2.heap.size I.s.len w3.heap.size) := HMI.out.kept HK4.out (fun _ _ h => h)
                  have hb2 : w3.heap.size < wr.heap.size := HSM.out.lt
                  clear HMI HI3 HM3 HF3
                  obtain ⟨w4, rfl⟩ : ∃ w4, w4 = wr := ⟨wr, rfl⟩
                  go_wp2_with fail
                  refine (new46 _ (newSl w.heap.size I.m.len) (newSl w1.heap.size I.f.len) w2.heap.size w3.heap.size).mono ?_
                  rintro e w5 ⟨bp, b3, b5, rfl, hplan, ho3, ho5, hx1, hx2, hx3, hk5⟩
                  have HPL : Hid (PlanB w5 bp (newSl w.heap.size I.m.len) (newSl w1.heap.size I.f.len) w2.heap.size w3.heap.size b3 b5) := hplan
                  have HO3 : Hid (w5.ownsMap Try.prog 47 ptrElem b3 0 (.map [] : DataW Unit)) := ho3
                  have HO5 : Hid (w5.ownsMap Try.prog 47 anyElem b5 0 (.map [] : DataW Unit)) := ho5
                  have HI5 : Hid (I.In w5) := HI4.out.new hk5
                  have HM5 : Hid (IntsAt w5 (newSl w.heap.size I.m.len) I.mx) := HM4.out.kept hk5 (fun _ h => h)
                  have HF5 : Hid (IntsAt w5 (newSl w1.heap.size I.f.len) I.fx) := HF4.out.kept hk5 (fun _ h => h)
                  have HMI5 : Hid (MapsIn w5 47 w2.heap.size I.s.len w3.heap.size) := HMI4.out.kept hk5 (fun _ _ h => h)
                  have HS5 : Hid (SrcM w5 w3.heap.size I.r.len I.rs) := HSM.out.kept hk5 (fun h => h)
                  have HN5 : Hid (New w w5) := (((HK.out.trans HK2.out).trans HK3.out).trans HK4.out).trans hk5
                  have hbp := hplan.lt
                  clear hplan ho3 ho5 hk5 HI4 HM4 HF4 HMI4 HSM HK HK2 HK3 HK4
                  go_wp2_with fail
                  go_loopw [123] (fun t wr => ∃ (k : Nat) (bq ba : Nat → Nat), t = .int .i64 k ∧ k ≤ I.p.len ∧ PullM wr b3 k (fun k => (I.ps k).frm) bq ∧ (∀ j, j < k → PullB wr (bq j) (I.ps j).q (ba j) ∧ OwnsL wr (ba j) (fewL (I.ps j).an (I.ps j).a.len) ∧ bp < ba j ∧ ba j < bq j) ∧ (∀ i j, i < j → j < k → bq i < ba j) ∧ Kept (· = b3) w5 wr) (fun t _ => I.p.len - (intOf t).toNat)
                  case atStart => exact ⟨0, fun _ => 0, fun _ => 0, rfl, Nat.zero_le _, ⟨_, HO3.out, fun f => rfl⟩, fun j hj => absurd hj (Nat.not_lt_zero _), fun i j _ hj => absurd hj (Nat.not_lt_zero _), Kept.refl _ _⟩
                  case round =>
                    obtain ⟨k, bq, ba, rfl, hk6, hM, hrows, hord, hK⟩ := hrel
                    have HPM : Hid (PullM wr b3 k (fun k => (I.ps k).frm) bq) := hM
                    have HRW : Hid (∀ j, j < k → PullB wr (bq j) (I.ps j).q (ba j) ∧ OwnsL wr (ba j) (fewL (I.ps j).an (I.ps j).a.len) ∧ bp < ba j ∧ ba j < bq j) := hrows
                    have HOR : Hid (∀ i j, i < j → j < k → bq i < ba j) := hord
                    have HK6 : Hid (Kept (· = b3) w5 wr) := hK
                    clear hM hK hrows hord
                    by_cases hlt5 : k < I.p.len
                    · have HNr : Hid (New w wr) := ((HN5.out.mono (T := (· = b3)) (fun _ _ h => h.elim)).trans HK6.out).mono (fun i hi h => by have h' : i = b3 := h; omega)
                      have HIr : Hid (I.In wr) := HI.out.new HNr.out
                      have HID : Hid (I.In wr.drew) := HI.out.new HNr.out.drew
                      have hi := HIr.out.p.ok.i25 hlt5
                      have hc0 := HIr.out.p.c0 k hlt5
                      have hc1 := HIr.out.p.c1 k hlt5
                      have hc2 := HIr.out.p.c2 k hlt5
                      obtain ⟨D, hO, hD⟩ := HPM.out
                      have HO : Hid (wr.drew.ownsMap Try.prog 47 ptrElem b3 k D) := hO.drew
                      have HD : Hid (∀ f, D.atKey (.int .i64 f) .nil = (match lastIdx (fun k => (I.ps k).frm) k f with | some j => .lit (.int .i64 (bq j : Int)) | none => .nil)) := hD
                      have HPD : Hid (PlanB wr.drew bp (newSl w.heap.size I.m.len) (newSl w1.heap.size I.f.len) w2.heap.size w3.heap.size b3 b5) := HPL.out.kept HK6.out.drew (fun h => by omega)
                      clear hO hD
                      go_wp2_with fail
                      go_region_held3 (fun W => W.cell? ⟨I.p.b, I.p.o + k * 3, none⟩ = some (.int .i64 (I.ps k).frm) ∧ W.cell? ⟨I.p.b, I.p.o + k * 3 + 1, none⟩ = some (.slice (I.ps k).q.oa (I.ps k).q.len (I.ps k).q.cap) ∧ W.cell? ⟨I.p.b, I.p.o + k * 3 + 2, none⟩ = some (.slice (I.ps k).a.oa (I.ps k).a.len (I.ps k).a.cap)) (first | exact ⟨hc0, hc1, hc2⟩ | exact ⟨hc0B, hc1B, hc2B⟩ | exact ⟨hc0C, hc1C, hc2C⟩) (first
                        | (go_at_call 16; refine (set16 _ (I.ps k).a (I.ps k).an ?_ (HA.out k hlt5)).mono ?_; exact HID.out.p.a k hlt5; rintro e w6 ⟨bk, rfl, hown, hge, hkn⟩; have HW6 : Hid (OwnsL w6 bk (fewL (I.ps k).an (I.ps k).a.len)) := hown; have HGE : Hid (wr.drew.heap.size ≤ bk) := hge; have HK7 : Hid (New wr.drew w6) := hkn; have HI6 : Hid (I.In w6) := HID.out.new hkn; clear hown hge hkn; have hc0B := HI6.out.p.c0 k hlt5; have hc1B := HI6.out.p.c1 k hlt5; have hc2B := HI6.out.p.c2 k hlt5)
                        | (go_at_call 47; refine (setp47 _ bp b3 k D (I.ps k).frm (I.ps k).q bk (HPD.out.kept HK7.out (fun h => h)).c3 (owns_kept HO.out HK7.out (fun h => h)) (by unfold maxLen; omega) (HI.out.p.wf k hlt5)).mono ?_; rintro e w7 ⟨rfl, hpb, hown7, hk7⟩; have HPB7 : Hid (PullB w7 w6.heap.size (I.ps k).q bk) := hpb; have HOWN7 : Hid (w7.ownsMap Try.prog 47 ptrElem b3 (k + 1) (D.put (.int .i64 (I.ps k).frm) (.lit (.int .i64 (w6.heap.size : Int))))) := hown7; have HK8 : Hid (Kept (· = b3) w6 w7) := hk7; have HN7 : Hid (New w w7) := (((HNr.out.drew.trans HK7.out).mono (T := (· = b3)) (fun _ _ h => h.elim)).trans hk7).mono (fun i hi h => by have h' : i = b3 := h; omega); have HI7 : Hid (I.In w7) := HI.out.new HN7.out; clear hpb hown7 hk7; have hc0C := HI7.out.p.c0 k hlt5; have hc1C := HI7.out.p.c1 k hlt5; have hc2C := HI7.out.p.c2 k hlt5))
                      go_wp2_with fail
                      go_roundw
                      case rel =>
                        have k1 : Kept (· = b3) wr w6 := ((Kept.refl (fun _ => False) wr).drew.trans HK7.out).mono (fun _ _ h => h.elim)
                        have k2 : Kept (· = b3) wr w7 := k1.trans HK8.out
                        have hbr : bp < wr.heap.size := Nat.lt_of_lt_of_le hbp HK6.out.size
                        have hbk : wr.heap.size ≤ bk := HGE.out
                        have hbl := HW6.out.lt
                        refine ⟨k + 1, fun j => if j = k then w6.heap.size else bq j, fun j => if j = k then bk else ba j, by go_num, by omega, ?_, ?_, ?_, HK6.out.trans k2⟩
                        · have hm := HO.out.isMap
                          refine PullM.step (D := D) (fun f => ?_) hm ?_
                          · rw [HD.out f]
                            cases hl : lastIdx (fun k => (I.ps k).frm) k f with
                            | none => rfl
                            | some j =>
                              have := (lastIdx_lt _ k f j hl).1
                              show (DataW.lit (.int .i64 (bq j : Int)) : DataW Unit) = .lit (.int .i64 (((if j = k then w6.heap.size else bq j : Nat)) : Int))
                              rw [if_neg (by omega)]
                          · rw [if_pos rfl]; exact HOWN7.out
                        · intro j hj
                          by_cases hjk : j = k
                          · subst hjk
                            simp only [if_true]
                            exact ⟨HPB7.out, HW6.out.kept HK8.out (fun h => by omega), by omega, hbl⟩
                          · simp only [if_neg hjk]
                            obtain ⟨p1, p2, p3, p4⟩ := HRW.out j (by omega)
                            exact ⟨p1.kept k2 (fun h => by omega), p2.kept k2 (fun h => by omega), p3, p4⟩
                        · intro i j hij hj
                          by_cases hjk : j = k
                          · subst hjk
                            simp only [if_true, if_neg (show i ≠ j by omega)]
                            have := (HRW.out i (by omega)).1.lt
                            omega
                          · simp only [if_neg hjk, if_neg (show i ≠ k by omega)]
                            exact HOR.out i j hij (by omega)
                      case measure => simp [intOf]; omega
                    · have hkl : k = I.p.len := by omega
                      subst hkl
                      have HN6 : Hid (New w wr) := ((HN5.out.mono (T := (· = b3)) (fun _ _ h => h.elim)).trans HK6.out).mono (fun i hi h => by have h' : i = b3 := h; omega)
                      have HPL6 : Hid (PlanB wr bp (newSl w.heap.size I.m.len) (newSl w1.heap.size I.f.len) w2.heap.size w3.heap.size b3 b5) := HPL.out.kept HK6.out (fun h => by omega)
                      have HM6 : Hid (IntsAt wr (newSl w.heap.size I.m.len) I.mx) := HM5.out.kept HK6.out (fun _ h => by have h' : w.heap.size = b3 := h; omega)
                      have HF6 : Hid (IntsAt wr (newSl w1.heap.size I.f.len) I.fx) := HF5.out.kept HK6.out (fun _ h => by have h' : w1.heap.size = b3 := h; omega)
                      have HMI6 : Hid (MapsIn wr 47 w2.heap.size I.s.len w3.heap.size) := HMI5.out.kept HK6.out (fun b hb h => by have h' : b = b3 := h; omega)
                      have HS6 : Hid (SrcM wr w3.heap.size I.r.len I.rs) := HS5.out.kept HK6.out (fun h => by have h' : w3.heap.size = b3 := h; omega)
                      have HO6 : Hid (wr.ownsMap Try.prog 47 anyElem b5 0 (.map [] : DataW Unit)) := owns_kept HO5.out HK6.out (fun h => by have h' : b5 = b3 := h; omega)
                      have hsz6 : bp < wr.heap.size := HPL6.out.lt
                      clear HK6 HPL HM5 HF5 HMI5 HS5 HO5 HO3 HN5 HI5
                      obtain ⟨w6, rfl⟩ : ∃ w6, w6 = wr := ⟨wr, rfl⟩
                      go_wp2_with fail
                      go_loopw [148] (fun t wr => ∃ k : Nat, t = .int .i64 k ∧ k ≤ I.u.len ∧ MapsM wr anyElem 3 w6.heap.size k ∧ (∃ D : DataW Unit, wr.ownsMap Try.prog 47 anyElem b5 k D) ∧ Kept (· = b5) w6 wr) (fun t _ => I.u.len - (intOf t).toNat)
                      case atStart => exact ⟨0, rfl, Nat.zero_le _, MapsM.made w6 anyElem 3, ⟨_, HO6.out.alloc _⟩, (Kept.refl _ _).alloc _⟩
                      case round =>
                        obtain ⟨k, rfl, hk7, hM, hO, hK⟩ := hrel
                        have HM : Hid (MapsM wr anyElem 3 w6.heap.size k) := hM
                        have HO : Hid (∃ D : DataW Unit, wr.ownsMap Try.prog 47 anyElem b5 k D) := hO
                        have HK7 : Hid (Kept (· = b5) w6 wr) := hK
                        clear hM hK hO
                        by_cases hlt6 : k < I.u.len
                        · have HNr : Hid (New w wr) := ((HN6.out.mono (T := (· = b5)) (fun _ _ h => h.elim)).trans HK7.out).mono (fun i hi h => by have h' : i = b5 := h; omega)
                          have HU : Hid (UnsAt wr I.u I.us) := HI.out.u.kept HNr.out (fun _ h => h)
                          have hi := HU.out.ok.i26 hlt6
                          have hc0 := HU.out.c0 k hlt6
                          have hc1 := HU.out.c1 k hlt6
                          have heql := fun w r => run_eql_map_nil (P := Try.prog) w 39 9 4 r Try.underlying39
                          have HWF : Hid ((Lit.int .i64 (I.us k).id).wf = true) := HU.out.wf k hlt6
                          have HSML : Hid ((I.us k).obj.size ≤ maxLen) := HU.out.small k hlt6
                          have HM0 : Hid (MapsM (wr.alloc (.cells #[.int .i64 (I.us k).id, .string (I.us k).obj] 73)) anyElem 3 w6.heap.size k) := HM.out.kept ((Kept.refl (fun _ => False) wr).alloc _) (fun _ _ h => h)
                          obtain ⟨m, hget, hm0⟩ := HM0.out.get law3 Try.underlying67 (zero39 _) (key3 HWF.out)
                          have HG : Hid (∀ b, m = some b → w6.heap.size < b ∧ ∃ D' : DataW Unit, (wr.alloc (.cells #[.int .i64 (I.us k).id, .string (I.us k).obj] 73)).ownsMap Try.prog 9 anyElem b k D') := hm0
                          clear hm0
                          have hb0 : w6.heap.size < wr.heap.size := HM.out.lt
                          have row0 : (wr.alloc (.cells #[.int .i64 (I.us k).id, .string (I.us k).obj] 73)).heap[wr.heap.size]? = some (.cells #[.int .i64 (I.us k).id, .string (I.us k).obj] 73) := (MapKept.heap_alloc wr _).1
                          have sz1 : (wr.alloc (.cells #[.int .i64 (I.us k).id, .string (I.us k).obj] 73)).heap.size = wr.heap.size + 1 := by simp
                          cases m with
                          | none =>
                            have HM1 : Hid (MapsM ((wr.alloc (.cells #[.int .i64 (I.us k).id, .string (I.us k).obj] 73)).alloc (.map #[] 0)) anyElem 3 w6.heap.size k) := HM0.out.kept ((Kept.refl (fun _ => False) _).alloc _) (fun _ _ h => h)
                            obtain ⟨D, hown, hD⟩ := HM1.out
                            have hB0 : ((wr.alloc (.cells #[.int .i64 (I.us k).id, .string (I.us k).obj] 73)).alloc (.map #[] 0)).ownsMap Try.prog 9 anyElem (wr.heap.size + 1) 0 (.map [] : DataW Unit) := by
                              have := World.ownsMap_made (wr.alloc (.cells #[.int .i64 (I.us k).id, .string (I.us k).obj] 73)) Try.prog 9 anyElem
                              rw [sz1] at this
                              exact this
                            obtain ⟨w7, hrun3, hown3, hturn3⟩ := hown.store law3 Try.underlying67 (by unfold maxLen; omega) (key3 HWF.out) (val := .map (some (wr.heap.size + 1))) (d := .lit (.int .i64 ((wr.heap.size + 1 : Nat) : Int))) (ps := []) rfl
                            have HM3 : Hid (MapsM w7 anyElem 3 w6.heap.size (k + 1)) := MapsM.put hD hown.isMap hown3 hturn3 (by omega) (hB0.mono (Nat.zero_le _))
                            have HB3 : Hid (w7.ownsMap Try.prog 9 anyElem (wr.heap.size + 1) k (.map [] : DataW Unit)) := (owns_turned hB0 hturn3 (by omega)).mono (Nat.zero_le _)
                            have k3 : Kept (· = w6.heap.size) wr w7 := (((Kept.refl (· = w6.heap.size) wr).alloc _).alloc _).turned hturn3 (fun _ => rfl)
                            have k30 : Kept (· = w6.heap.size) (wr.alloc (.cells #[.int .i64 (I.us k).id, .string (I.us k).obj] 73)) w7 := ((Kept.refl (· = w6.heap.size) (wr.alloc (.cells #[.int .i64 (I.us k).id, .string (I.us k).obj] 73))).alloc _).turned hturn3 (fun _ => rfl)
                            have row3 : w7.heap[wr.heap.size]? = some (.cells #[.int .i64 (I.us k).id, .string (I.us k).obj] 73) := k30.at (k := wr.heap.size) (by omega) row0
                            have HR3 : Hid (w7.heap[wr.heap.size]? = some (.cells #[.int .i64 (I.us k).id, .string (I.us k).obj] 73)) := row3
                            have hr0 : w7.cell? ⟨wr.heap.size, 0, none⟩ = some (.int .i64 (I.us k).id) := by simp [World.cell?, row3]
                            have HO7 : Hid (∃ D : DataW Unit, w7.ownsMap Try.prog 47 anyElem b5 k D) := by
                              obtain ⟨D5, h5⟩ := HO.out
                              exact ⟨D5, owns_kept h5 k3 (fun h => by have h' : b5 = w6.heap.size := h; omega)⟩
                            have HP7 : Hid (PlanB w7 bp (newSl w.heap.size I.m.len) (newSl w1.heap.size I.f.len) w2.heap.size w3.heap.size b3 b5) := (HPL6.out.kept HK7.out (fun h => by omega)).kept k3 (fun h => by have h' : bp = w6.heap.size := h; omega)
                            have HK8 : Hid (Kept (· = b5) w6 w7) := ((HK7.out.trans (((Kept.refl (· = b5) wr).alloc _).alloc _))).turned hturn3 (fun h => absurd h (Nat.lt_irrefl _))
                            have hsz7 : wr.heap.size + 1 < w7.heap.size := HB3.out.lt
                            clear hown hD hB0 hown3 hturn3 k3 k30 row0 row3 HG
                            go_wp2_with fail
                            obtain ⟨D5, h5⟩ := HO7.out
                            refine (setb48 w7 bp b5 k D5 (I.us k).id (wr.heap.size + 1) HP7.out.c5 h5 (by unfold maxLen; omega) HWF.out).mono ?_
                            rintro e w8 ⟨rfl, hown8, hk8⟩
                            have HOW8 : Hid (∃ D : DataW Unit, w8.ownsMap Try.prog 47 anyElem b5 (k + 1) D) := ⟨_, hown8⟩
                            have HB8 : Hid (w8.ownsMap Try.prog 9 anyElem (wr.heap.size + 1) k (.map [] : DataW Unit)) := owns_kept HB3.out hk8 (fun h => by have h' : wr.heap.size + 1 = b5 := h; omega)
                            have row8 : w8.heap[wr.heap.size]? = some (.cells #[.int .i64 (I.us k).id, .string (I.us k).obj] 73) := hk8.at (k := wr.heap.size) (fun h => by have h' : wr.heap.size = b5 := h; omega) HR3.out
                            have hr1 : w8.cell? ⟨wr.heap.size, 1, none⟩ = some (.string (I.us k).obj) := by simp [World.cell?, row8]
                            have HM8 : Hid (MapsM w8 anyElem 3 w6.heap.size (k + 1)) := HM3.out.kept hk8 (fun b hb h => by have h' : b = b5 := h; omega)
                            obtain ⟨w9, hrun9, hown9, hturn9⟩ := HB8.out.store law9 Try.underlying39 (by unfold maxLen; omega) (key9 HSML.out) (val := .bool true) (d := .nil) (ps := []) rfl
                            have HM9 : Hid (MapsM w9 anyElem 3 w6.heap.size (k + 1)) := HM8.out.inner (by omega) hturn9 (Nat.le_refl _) hown9
                            have HOW9 : Hid (∃ D : DataW Unit, w9.ownsMap Try.prog 47 anyElem b5 (k + 1) D) := by
                              obtain ⟨D6, h6⟩ := HOW8.out
                              exact ⟨D6, owns_turned h6 hturn9 (by omega)⟩
                            have HK9 : Hid (Kept (· = b5) w6 w9) := (HK8.out.trans hk8).turned hturn9 (fun h => absurd h (by omega))
                            clear hown8 hk8 row8 hown9 hturn9 h5
                            go_wp2_with fail
                            go_roundw
                            case rel => exact ⟨k + 1, by go_num, by omega, HM9.out, HOW9.out, HK9.out⟩
                            case measure => simp [intOf]; omega
                          | some b =>
                            obtain ⟨hbb, D', hB⟩ := HG.out b rfl
                            have hne : wr.heap.size ≠ b := by
                              intro e
                              obtain ⟨es, clock, hx, _⟩ := hB
                              rw [← e] at hx
                              rw [row0] at hx
                              cases hx
                            obtain ⟨w7, hrun4, hown4, hturn4⟩ := hB.store law9 Try.underlying39 (by unfold maxLen; omega) (key9 HSML.out) (val := .bool true) (d := .nil) (ps := []) rfl
                            have HM4 : Hid (MapsM w7 anyElem 3 w6.heap.size (k + 1)) := HM0.out.inner hbb hturn4 (by omega) hown4
                            have HK4 : Hid (Kept (· = b5) w6 w7) := (HK7.out.trans ((Kept.refl (· = b5) wr).alloc _)).turned hturn4 (fun h => absurd h (by omega))
                            have HO4 : Hid (∃ D : DataW Unit, w7.ownsMap Try.prog 47 anyElem b5 (k + 1) D) := by
                              obtain ⟨D6, h6⟩ := HO.out
                              exact ⟨D6, (owns_turned (h6.alloc _) hturn4 (by omega)).mono (by omega)⟩
                            clear hB hown4 HG row0
                            go_wp2_with fail
                            go_roundw
                            case rel => exact ⟨k + 1, by go_num, by omega, HM4.out, HO4.out, HK4.out⟩
                            case measure => simp [intOf]; omega
                        · go_wp2_with fail
                          go_ret
                          have k7 : Kept (· = b5) w6 wr := HK7.out
                          have n7 : New w wr := ((HN6.out.mono (T := (· = b5)) (fun _ _ h => h.elim)).trans k7).mono (fun i hi h => by have h' : i = b5 := h; omega)
                          exact ⟨bp, w2.heap.size, w3.heap.size, b3, b5, w.heap.size, w1.heap.size, w3.heap.size, bq, ba, rfl,
                            ⟨HPL6.out.kept k7 (fun h => by omega), HM6.out.kept k7 (fun _ h => by have h' : w.heap.size = b5 := h; omega), HF6.out.kept k7 (fun _ h => by have h' : w1.heap.size = b5 := h; omega),
                             HMI6.out.kept k7 (fun b hb h => by have h' : b = b5 := h; omega), HS6.out.kept k7 (fun h => by have h' : w3.heap.size = b5 := h; omega), HPM.out.kept k7 (fun h => by have h' : b3 = b5 := h; omega),
                             fun j hj => (HRW.out j hj).1.kept k7 (fun h => by have h' : bq j = b5 := h; have := (HRW.out j hj).2.2; omega), fun j hj => (HRW.out j hj).2.1.kept k7 (fun h => by have h' : ba j = b5 := h; have := (HRW.out j hj).2.2; omega),
                             Nat.le_refl _, by omega, by omega, fun j hj => (HRW.out j hj).2.2, HOR.out⟩, by omega, by omega, by omega, n7⟩

end Go.Proofs.Qxb6601307a
