/-
  THE PULLS' STATE while NextPulls runs; the walk of NextPulls where there are no sources.
-/
import Derived.Test.Qxb6601307aRec
set_option linter.unusedVariables false
namespace Go.Proofs.Qxb6601307a
open Go.RowKit Go.Maps

def updN {α : Type} (f : Nat → α) (j : Nat) (v : α) : Nat → α := fun i => if i = j then v else f i
theorem updN_same {α : Type} (f : Nat → α) (j : Nat) (v : α) : updN f j v j = v := by simp [updN]
theorem updN_other {α : Type} (f : Nat → α) {i j : Nat} (v : α) (h : i ≠ j) : updN f j v i = f i := by simp [updN, h]

/-- row j: q' is what is left of its queue, behind the first c -/
structure PRow (w : World) (p : PullR) (bp bq ba c : Nat) (L : List ByteArray) (q' : Sl) : Prop where
  blk : PullB w bq q' ba
  strs : StrsAt w q' (fun i => p.qs (c + i))
  len : q'.len + c = p.q.len
  old : 0 < q'.len → q'.b < bp
  own : OwnsL w ba L

/-- every row -/
def PSt (w : World) (I : Inp) (bp : Nat) (bq ba : Nat → Nat) (qc : Nat → Nat) (L : Nat → List ByteArray) : Prop := ∀ j, j < I.p.len → ∃ q', PRow w (I.ps j) bp (bq j) (ba j) (qc j) (L j) q'

/-- the order of the blocks -/
structure POrd (n bp : Nat) (bq ba : Nat → Nat) : Prop where
  o4 : ∀ j, j < n → bp < ba j ∧ ba j < bq j
  o5 : ∀ i j, i < j → j < n → bq i < ba j

theorem POrd.bqne {n bp : Nat} {bq ba : Nat → Nat} (h : POrd n bp bq ba) {i j : Nat} (hi : i < n) (hj : j < n) (hne : i ≠ j) : bq i ≠ bq j := by
  rcases Nat.lt_or_gt_of_ne hne with hl | hl
  · have := h.o5 i j hl hj; have := (h.o4 j hj).2; omega
  · have := h.o5 j i hl hi; have := (h.o4 i hi).2; omega

theorem POrd.bane {n bp : Nat} {bq ba : Nat → Nat} (h : POrd n bp bq ba) {i j : Nat} (hi : i < n) (hj : j < n) : ba i ≠ bq j := by
  rcases Nat.lt_trichotomy i j with hl | hl | hl
  · have := h.o5 i j hl hj; have := (h.o4 j hj).2; have := (h.o4 i hi).2; omega
  · subst hl; have := (h.o4 i hi).2; omega
  · have := h.o5 j i hl hi; omega

theorem POrd.bab {n bp : Nat} {bq ba : Nat → Nat} (h : POrd n bp bq ba) {i j : Nat} (hi : i < n) (hj : j < n) (hne : i ≠ j) : ba i ≠ ba j := by
  rcases Nat.lt_or_gt_of_ne hne with hl | hl
  · have := h.o5 i j hl hj; have := (h.o4 i hi).2; omega
  · have := h.o5 j i hl hi; have := (h.o4 j hj).2; omega

theorem PRow.kept {S : Nat → Prop} {w w' : World} {p : PullR} {bp bq ba c : Nat} {L : List ByteArray} {q' : Sl} (h : PRow w p bp bq ba c L q') (hk : Kept S w w') (h1 : ¬ S bq) (h2 : ¬ S ba) (h3 : ∀ b, b < bp → ¬ S b) : PRow w' p bp bq ba c L q' :=
  ⟨h.blk.kept hk h1, h.strs.kept hk (fun hl => h3 _ (h.old hl)), h.len, h.old, h.own.kept hk h2⟩

theorem PullB.pop {w : World} {b : Nat} {q : Sl} {ba : Nat} (h : PullB w b q ba) (q' : Sl) : PullB (w.setCell ⟨b, 0, none⟩ (.slice q'.oa q'.len q'.cap)) b q' ba := by
  have := heap_setCell_cells (off := 0) h (.slice q'.oa q'.len q'.cap)
  exact this

/-- a name is taken off row j's queue -/
theorem PSt.pop {w : World} {I : Inp} {bp : Nat} {bq ba qc : Nat → Nat} {L : Nat → List ByteArray} (h : PSt w I bp bq ba qc L) (ho : POrd I.p.len bp bq ba) {j : Nat} (hj : j < I.p.len) {q' : Sl} (hq : PRow w (I.ps j) bp (bq j) (ba j) (qc j) (L j) q') (hl : 0 < q'.len) :
    PSt (w.setCell ⟨bq j, 0, none⟩ (.slice (q'.tl 1).oa (q'.tl 1).len (q'.tl 1).cap)) I bp bq ba (updN qc j (qc j + 1)) L := by
  have hk : Kept (· = bq j) w (w.setCell ⟨bq j, 0, none⟩ (.slice (q'.tl 1).oa (q'.tl 1).len (q'.tl 1).cap)) := (Kept.refl (· = bq j) w).setNew (p := ⟨bq j, 0, none⟩) (fun _ => rfl) _
  have hbj := ho.o4 j hj
  intro i hi
  by_cases hij : i = j
  · subst hij
    rw [updN_same]
    refine ⟨q'.tl 1, hq.blk.pop _, ?_, ?_, ?_, hq.own.kept hk (ho.bane hi hi)⟩
    · have h1 := (hq.strs.tl (c := 1) (by omega)).kept hk (fun hl2 h2 => by
        have h3 : q'.b = bq i := h2
        have := hq.old hl
        omega)
      have e : (fun k => (I.ps i).qs (qc i + (1 + k))) = fun k => (I.ps i).qs (qc i + 1 + k) := by funext k; rw [Nat.add_assoc]
      rw [← e]
      exact h1
    · have := hq.len
      show q'.len - 1 + (qc i + 1) = _
      omega
    · intro _
      exact hq.old hl
  · rw [updN_other _ _ hij]
    obtain ⟨q2, h2⟩ := h i hi
    exact ⟨q2, h2.kept hk (ho.bqne hi hj hij) (ho.bane hi hj) (fun b hb e => by have e' : b = bq j := e; omega)⟩

theorem zero47 (w : World) : (zeroValue 47).run Try.prog w = .ok (.int .i64 0) w := by kernel_rfl

/-- 'from, ok := p.sources[x]' -/
theorem SrcM.look {w : World} {bm k : Nat} {rs : Nat → Src} (h : SrcM w bm k rs) {x : ByteArray} (hx : x.size ≤ maxLen) :
    ∃ c : Int, (Instr.lookup 96 (.map (some bm)) (.string x) true).run Try.prog w = .ok (.tuple #[.int .i64 c, .bool (inFew (fun i => (rs i).obj) k x)]) w := by
  obtain ⟨D, ho, hD⟩ := h
  obtain ⟨v, ps, hrun, hv⟩ := ho.look_ok law9 Try.underlying96 (zero47 w) (plainElem_int (H := Unit) (q := .i64) (a := 0) Try.underlying47 (by decide)) (key9 hx)
  obtain ⟨c, rfl, hc, _⟩ := plainElem_int_inv Try.underlying47 hv
  rw [hD] at hrun
  exact ⟨c, hrun⟩

/-- how long the queue is that lies at block b's head -/
def qLen (w : World) (b : Nat) : Nat := match w.cell? ⟨b, 0, none⟩ with | some (.slice _ l _) => l | _ => 0

theorem qLen_eq {w : World} {b : Nat} {q : Sl} {ba : Nat} (h : PullB w b q ba) : qLen w b = q.len := by unfold qLen; rw [h.c0]

/-- what NextPulls leaves: nothing but blocks behind the plan's -/
abbrev After (bp : Nat) (w w' : World) : Prop := Kept (fun b => bp < b) w w'

theorem Built.kept {w w' : World} {I : Inp} {bp b1 b2 b3 b5 gm gf hi : Nat} {bq ba : Nat → Nat} (B : Built w I bp b1 b2 b3 b5 gm gf hi bq ba) (hk : New w w') : Built w' I bp b1 b2 b3 b5 gm gf hi bq ba :=
  ⟨B.plan.kept hk (fun h => h), B.mem.kept hk (fun _ h => h), B.frm.kept hk (fun _ h => h), B.miss.kept hk (fun _ _ h => h), B.src.kept hk (fun h => h), B.pull.kept hk (fun h => h), fun j hj => (B.rowB j hj).kept hk (fun h => h), fun j hj => (B.rowL j hj).kept hk (fun h => h), B.o1, B.o2, B.o3, B.o4, B.o5⟩

theorem Built.ord {w : World} {I : Inp} {bp b1 b2 b3 b5 gm gf hi : Nat} {bq ba : Nat → Nat} (B : Built w I bp b1 b2 b3 b5 gm gf hi bq ba) : POrd I.p.len bp bq ba := ⟨B.o4, B.o5⟩

theorem Built.start {w : World} {I : Inp} {bp b1 b2 b3 b5 gm gf hi : Nat} {bq ba : Nat → Nat} (B : Built w I bp b1 b2 b3 b5 gm gf hi bq ba) (hq : ∀ j, j < I.p.len → StrsAt w (I.ps j).q (I.ps j).qs) (hb : ∀ j, j < I.p.len → 0 < (I.ps j).q.len → (I.ps j).q.b < bp) :
    PSt w I bp bq ba (fun _ => 0) (fun j => fewL (I.ps j).an (I.ps j).a.len) := by
  intro j hj
  refine ⟨(I.ps j).q, B.rowB j hj, ?_, rfl, hb j hj, B.rowL j hj⟩
  have e : (fun i => (I.ps j).qs (0 + i)) = (I.ps j).qs := by funext i; rw [Nat.zero_add]
  rw [e]
  exact hq j hj

set_option maxRecDepth 100000 in
set_option maxHeartbeats 4000000 in
theorem next15s (w : World) (I : Inp) {bp b1 b2 b3 b5 gm gf hi : Nat} {bq ba : Nat → Nat} (B : Built w I bp b1 b2 b3 b5 gm gf hi bq ba) (hbf : gf < bp)
    (hq : ∀ j, j < I.p.len → StrsAt w (I.ps j).q (I.ps j).qs) (hb : ∀ j, j < I.p.len → 0 < (I.ps j).q.len → (I.ps j).q.b < bp) (hr : I.r.len = 0) (hall : allIn (fun k => (I.ps k).frm) I.p.len I.fx I.f.len = true)
    (hs : I.f.len ≤ 1048576) : Calls Try.prog 15 #[.pointer (some ⟨bp, 0, none⟩)] w fun e w' => e = .returned (.slice none 0 0) ∧ After bp w w' := by
  have hc4 : w.cell? ⟨bp, 4, none⟩ = some (.slice (some ⟨gf, 0, none⟩) I.f.len I.f.len) := B.plan.c4
  have HST : Hid (PSt w I bp bq ba (fun _ => 0) (fun j => fewL (I.ps j).an (I.ps j).a.len)) := B.start hq hb
  have HO : Hid (POrd I.p.len bp bq ba) := B.ord
  have HC2 : Hid (∀ W, After bp w W → W.cell? ⟨bp, 2, none⟩ = some (.map (some b2))) := fun W hk => hk.cell (p := ⟨bp, 2, none⟩) (fun h => absurd h (Nat.lt_irrefl _)) B.plan.c2
  have HC3 : Hid (∀ W, After bp w W → W.cell? ⟨bp, 3, none⟩ = some (.map (some b3))) := fun W hk => hk.cell (p := ⟨bp, 3, none⟩) (fun h => absurd h (Nat.lt_irrefl _)) B.plan.c3
  have HF : Hid (IntsAt w (newSl gf I.f.len) I.fx) := B.frm
  have HP : Hid (PullM w b3 I.p.len (fun k => (I.ps k).frm) bq) := B.pull
  have HS : Hid (SrcM w b2 I.r.len I.rs) := B.src
  have ho2 := B.o2
  have ho3 := B.o3
  have HA : Hid (∀ k, k < I.f.len → (lastIdx (fun k => (I.ps k).frm) I.p.len (I.fx k)).isSome = true) := (allIn_iff _ _ _ _).1 hall
  clear B hq hb hall
  go_enter Try.func15, Try.ntmps15
  go_wp2_with fail
  go_loopw [3, 15] (fun t3 t wr => t3 = .slice none 0 0 ∧ ∃ k : Nat, t = .int .i64 k ∧ k ≤ I.f.len ∧ (∃ qc, PSt wr I bp bq ba qc (fun j => fewL (I.ps j).an (I.ps j).a.len)) ∧ After bp w wr) (fun _ t _ => I.f.len - (intOf t).toNat)
  case atStart => exact ⟨rfl, 0, rfl, Nat.zero_le _, ⟨_, HST.out⟩, Kept.refl _ _⟩
  case round =>
    obtain ⟨rfl, k, rfl, hk, hS, hK⟩ := hrel
    have HS1 : Hid (∃ qc, PSt wr I bp bq ba qc (fun j => fewL (I.ps j).an (I.ps j).a.len)) := hS
    have HK : Hid (After bp w wr) := hK
    clear hS hK
    by_cases hlt : k < I.f.len
    · have HFr : Hid (IntsAt wr (newSl gf I.f.len) I.fx) := HF.out.kept HK.out (fun _ h => by have h' : bp < gf := h; omega)
      have hix : ∀ w, (Instr.indexAt 88 (.slice (some ⟨gf, 0, none⟩) I.f.len I.f.len) (.int .i64 k)).run Try.prog w = .ok (.pointer (some ⟨gf, k, none⟩)) w := fun w => by have := HFr.out.ok.i88 (k := k) hlt w; rwa [Nat.zero_add] at this
      have hcx : wr.cell? ⟨gf, k, none⟩ = some (.int .i64 (I.fx k)) := by have := HFr.out.cell k hlt; rwa [Nat.zero_add] at this
      have hcp := HC3.out wr HK.out
      obtain ⟨j, hj⟩ := Option.isSome_iff_exists.1 (HA.out k hlt)
      have hjl := (lastIdx_lt _ _ _ _ hj).1
      have hget := (HP.out.kept HK.out (fun h => by have h' : bp < b3 := h; omega)).get (HFr.out.wf k hlt) hj
      clear hj
      obtain ⟨w1, rfl⟩ : ∃ w1, w1 = wr := ⟨wr, rfl⟩
      go_wp2_with fail
      go_loopw [3] (fun t3 wr => t3 = .slice none 0 0 ∧ (∃ qc, PSt wr I bp bq ba qc (fun j => fewL (I.ps j).an (I.ps j).a.len)) ∧ After bp w wr) (fun _ wr => qLen wr (bq j))
      case atStart => exact ⟨rfl, HS1.out, HK.out⟩
      case round =>
        obtain ⟨rfl, ⟨qc, hS2⟩, hK2⟩ := hrel
        obtain ⟨q', hrow⟩ := hS2 j hjl
        have HS2 : Hid (PSt wr I bp bq ba qc (fun j => fewL (I.ps j).an (I.ps j).a.len)) := hS2
        have HK2 : Hid (After bp w wr) := hK2
        have HRow : Hid (PRow wr (I.ps j) bp (bq j) (ba j) (qc j) (fewL (I.ps j).an (I.ps j).a.len) q') := hrow
        have hd0 := hrow.blk.c0
        have hd1 := hrow.blk.c1
        have hfr := hrow.blk.free 0
        have hlen := hrow.own.len
        have HQL : Hid (qLen wr (bq j) = q'.len) := qLen_eq hrow.blk
        obtain ⟨z, hz⟩ : ∃ z, z = szL (fewL (I.ps j).an (I.ps j).a.len) := ⟨_, rfl⟩
        rw [← hz] at hlen
        clear hS2 hK2 hrow hz
        by_cases hz64 : z < 64
        · have hz64' : (z : Int) < 64 := by omega
          by_cases hl0 : 0 < q'.len
          · have hl0' : (0 : Int) < q'.len := by omega
            have hi0 : ∀ w, (Instr.indexAt 43 (.slice q'.oa q'.len q'.cap) (.int .i64 0)).run Try.prog w = .ok (.pointer (some ⟨q'.b, q'.o, none⟩)) w := fun w => HRow.out.strs.ok.i43 (k := 0) hl0 w
            have hx0 : wr.cell? ⟨q'.b, q'.o, none⟩ = some (.string ((I.ps j).qs (qc j))) := HRow.out.strs.cell 0 hl0
            have hsl : ∀ w, (Instr.slice 43 (.slice q'.oa q'.len q'.cap) (some (.int .i64 1)) none none).run Try.prog w = .ok (.slice (q'.tl 1).oa (q'.tl 1).len (q'.tl 1).cap) w := fun w => tl_run (T := 43) (by kernel_rfl) sz43 q' (c := 1) hl0 w
            have hS3 := HS2.out.pop HO.out hjl HRow.out hl0
            have HQ3 : Hid (qLen (wr.setCell ⟨bq j, 0, none⟩ (.slice (q'.tl 1).oa (q'.tl 1).len (q'.tl 1).cap)) (bq j) = q'.len - 1) := qLen_eq (HRow.out.blk.pop (q'.tl 1))
            have HK3 : Hid (After bp w (wr.setCell ⟨bq j, 0, none⟩ (.slice (q'.tl 1).oa (q'.tl 1).len (q'.tl 1).cap))) := HK2.out.setNew (p := ⟨bq j, 0, none⟩) (fun _ => Nat.lt_trans (HO.out.o4 j hjl).1 (HO.out.o4 j hjl).2) _
            obtain ⟨T, hT⟩ : ∃ T, T = q'.tl 1 := ⟨_, rfl⟩
            rw [← hT] at hsl hS3 HQ3 HK3
            have HS3 : Hid (PSt (wr.setCell ⟨bq j, 0, none⟩ (.slice T.oa T.len T.cap)) I bp bq ba (updN qc j (qc j + 1)) (fun j => fewL (I.ps j).an (I.ps j).a.len)) := hS3
            have hcs := HC2.out _ HK3.out
            have hsm : ((I.ps j).qs (qc j)).size ≤ maxLen := HRow.out.strs.small 0 hl0
            obtain ⟨c, hlook⟩ := (HS.out.kept HK3.out (fun h => by have h' : bp < b2 := h; omega)).look hsm
            have hno : inFew (fun i => (I.rs i).obj) I.r.len ((I.ps j).qs (qc j)) = false := by rw [hr]; rfl
            rw [hno] at hlook
            clear hS3 hT hno hsm
            go_wp2_with fail
            go_roundw
            case rel => exact ⟨rfl, ⟨_, HS3.out⟩, HK3.out⟩
            case measure => rw [HQ3.out, HQL.out]; omega
          · have hl0' : ¬ (0 : Int) < q'.len := by omega
            go_wp2_with fail
            go_roundw
            case rel => exact ⟨rfl, k + 1, by go_num, by omega, ⟨_, HS2.out⟩, HK2.out⟩
            case measure => simp [intOf]; omega
        · have hz64' : ¬ (z : Int) < 64 := by omega
          go_wp2_with fail
          go_roundw
          case rel => exact ⟨rfl, k + 1, by go_num, by omega, ⟨_, HS2.out⟩, HK2.out⟩
          case measure => simp [intOf]; omega
    · go_wp2_with fail
      go_ret
      exact ⟨rfl, HK.out⟩

end Go.Proofs.Qxb6601307a
