/-
  THE PLAN's MAPS: missing (maps of maps), sources, pulls (pointers), backfills; and the walks of ZZNewPlan, ZZSetPulls, ZZSetBackfill.
-/
import Derived.Test.Qxb6601307aSet
set_option linter.unusedVariables false
namespace Go.Proofs.Qxb6601307a
open Go.RowKit Go.Maps

/-! ### How elements read -/
/-- whatever it is -/
def anyElem : Value → Option (DataW Unit × List MemPlace) := fun _ => some (.nil, [])
/-- an Item: four numbers -/
def itemElem : Value → Option (DataW Unit × List MemPlace)
  | .agg ⟨[.int .u64 _, .int .u64 _, .int .u64 _, .int .u64 _]⟩ => some (.nil, [])
  | _ => none

theorem itemElem_inv {v : Value} {y : DataW Unit × List MemPlace} (h : itemElem v = some y) : ∃ c : Int × Int × Int × Int, v = .agg #[.int .u64 c.1, .int .u64 c.2.1, .int .u64 c.2.2.1, .int .u64 c.2.2.2] := by
  unfold itemElem at h
  split at h
  · exact ⟨(_, _, _, _), rfl⟩
  · cases h

/-- a map: its block -/
def mapElem : Value → Option (DataW Unit × List MemPlace)
  | .map (some b) => some (.lit (.int .i64 (b : Int)), [])
  | .map none => some (.nil, [])
  | _ => none
/-- a pointer to a block's head: the block -/
def ptrElem : Value → Option (DataW Unit × List MemPlace)
  | .pointer (some ⟨b, 0, none⟩) => some (.lit (.int .i64 (b : Int)), [])
  | .pointer none => some (.nil, [])
  | _ => none

theorem mapElem_inv {v : Value} {d : DataW Unit} {ps : List MemPlace} (h : mapElem v = some (d, ps)) : ∃ m : Option Nat, v = .map m ∧ ((m = none ∧ d = .nil) ∨ ∃ b, m = some b ∧ d = .lit (.int .i64 (b : Int))) := by
  unfold mapElem at h
  split at h
  · cases h; exact ⟨_, rfl, .inr ⟨_, rfl, rfl⟩⟩
  · cases h; exact ⟨_, rfl, .inl ⟨rfl, rfl⟩⟩
  · cases h

theorem ptrElem_inv {v : Value} {d : DataW Unit} {ps : List MemPlace} (h : ptrElem v = some (d, ps)) : (v = .pointer none ∧ d = .nil) ∨ ∃ b : Nat, v = .pointer (some ⟨b, 0, none⟩) ∧ d = .lit (.int .i64 (b : Int)) := by
  unfold ptrElem at h
  split at h
  · cases h; exact .inr ⟨_, rfl, rfl⟩
  · cases h; exact .inl ⟨rfl, rfl⟩
  · cases h

theorem law47 : Keyed Try.prog 47 := int_keyed Try.underlying47
theorem key47 {f : Int} (h : (Lit.int .i64 f).wf = true) : keyOf Try.prog 47 (.int .i64 f) = some (.int .i64 f) := keyOf_int_mk Try.underlying47 h
theorem zero91 (w : World) : (zeroValue 91).run Try.prog w = .ok (.map none) w := by kernel_rfl
theorem zero39 (w : World) : (zeroValue 39).run Try.prog w = .ok (.map none) w := by kernel_rfl
theorem zero104 (w : World) : (zeroValue 104).run Try.prog w = .ok (.pointer none) w := by kernel_rfl

theorem owns_kept {S : Nat → Prop} {w w' : World} {K : TypeId} {R : Value → Option (DataW Unit × List MemPlace)} {b n : Nat} {D : DataW Unit} (h : w.ownsMap Try.prog K R b n D) (hk : Kept S w w') (hs : ¬ S b) : w'.ownsMap Try.prog K R b n D := by
  have hlt := h.lt
  obtain ⟨es, clock, hb, r⟩ := h
  exact ⟨es, clock, (hk.block b hlt hs).trans hb, r⟩

theorem owns_turned {w w' : World} {K : TypeId} {R : Value → Option (DataW Unit × List MemPlace)} {b n bm : Nat} {D : DataW Unit} (h : w.ownsMap Try.prog K R b n D) (ht : w.mapTurned w' bm) (hs : b ≠ bm) : w'.ownsMap Try.prog K R b n D :=
  owns_kept h ((Kept.refl (· = bm) w).turned ht (fun _ => rfl)) hs

theorem blkLit {a b : Nat} (h : (DataW.lit (.int .i64 (a : Int)) : DataW Unit) = .lit (.int .i64 (b : Int))) : a = b := by
  have := lit_inj h
  omega

/-! ### A map of maps, keyed by K (an int) -/
/-- block bm of w is a map of maps, each inner one in a later block, none of more than k entries -/
def MapsM (w : World) (R : Value → Option (DataW Unit × List MemPlace)) (K : TypeId) (bm k : Nat) : Prop :=
  ∃ D : DataW Unit, w.ownsMap Try.prog K mapElem bm k D ∧ ∀ f (b : Nat), D.atKey (.int .i64 f) .nil = .lit (.int .i64 (b : Int)) → bm < b ∧ ∃ D' : DataW Unit, w.ownsMap Try.prog 9 R b k D'

theorem MapsM.made (w : World) (R : Value → Option (DataW Unit × List MemPlace)) (K : TypeId) : MapsM (w.alloc (.map #[] 0)) R K w.heap.size 0 := ⟨.map [], World.ownsMap_made _ _ _ _, fun f b h => by simp [DataW.atKey] at h⟩

theorem MapsM.lt {R : Value → Option (DataW Unit × List MemPlace)} {w : World} {K : TypeId} {bm k : Nat} (h : MapsM w R K bm k) : bm < w.heap.size := by
  obtain ⟨D, ho, _⟩ := h
  exact ho.lt

/-- carried on while blocks below bm are written -/
theorem MapsM.kept {R : Value → Option (DataW Unit × List MemPlace)} {S : Nat → Prop} {w w' : World} {K : TypeId} {bm k : Nat} (h : MapsM w R K bm k) (hk : Kept S w w') (hs : ∀ b, bm ≤ b → ¬ S b) : MapsM w' R K bm k := by
  obtain ⟨D, ho, hD⟩ := h
  refine ⟨D, owns_kept ho hk (hs bm (Nat.le_refl _)), fun f b hb => ?_⟩
  obtain ⟨h1, D', h2⟩ := hD f b hb
  exact ⟨h1, D', owns_kept h2 hk (hs b (by omega))⟩

theorem MapsM.mono {R : Value → Option (DataW Unit × List MemPlace)} {w : World} {K : TypeId} {bm k k' : Nat} (h : MapsM w R K bm k) (hk : k ≤ k') : MapsM w R K bm k' := by
  obtain ⟨D, ho, hD⟩ := h
  refine ⟨D, ho.mono hk, fun f b hb => ?_⟩
  obtain ⟨h1, D', h2⟩ := hD f b hb
  exact ⟨h1, D', h2.mono hk⟩

/-- 'm[f]' -/
theorem MapsM.get {R : Value → Option (DataW Unit × List MemPlace)} {w : World} {K T E : TypeId} {bm k : Nat} (h : MapsM w R K bm k) (law : Keyed Try.prog K) (hT : Try.prog.underlying T = some (.map K E)) (hz : (zeroValue E).run Try.prog w = .ok (.map none) w) {f : Int} (hf : keyOf Try.prog K (.int .i64 f) = some (.int .i64 f)) :
    ∃ m : Option Nat, (Instr.lookup T (.map (some bm)) (.int .i64 f) false).run Try.prog w = .ok (.map m) w ∧ ∀ b, m = some b → bm < b ∧ ∃ D' : DataW Unit, w.ownsMap Try.prog 9 R b k D' := by
  obtain ⟨D, ho, hD⟩ := h
  obtain ⟨v, ps, hrun, hv⟩ := ho.lookup law hT hz (zd := .nil) (zp := []) rfl hf
  obtain ⟨m, rfl, hm⟩ := mapElem_inv hv
  refine ⟨m, hrun, ?_⟩
  rintro b rfl
  rcases hm with ⟨h1, _⟩ | ⟨b', h1, h2⟩
  · cases h1
  · cases h1
    exact hD f b h2

/-- 'm[f] = new map' -/
theorem MapsM.put {R : Value → Option (DataW Unit × List MemPlace)} {w w1 : World} {K : TypeId} {bm k b : Nat} {f : Int} {D : DataW Unit} (hD : ∀ f (b : Nat), D.atKey (.int .i64 f) .nil = .lit (.int .i64 (b : Int)) → bm < b ∧ ∃ D' : DataW Unit, w.ownsMap Try.prog 9 R b k D') (hm : IsMap D)
    (h1 : w1.ownsMap Try.prog K mapElem bm (k + 1) (D.put (.int .i64 f) (.lit (.int .i64 (b : Int))))) (ht : w.mapTurned w1 bm) (hb : bm < b) {D' : DataW Unit} (hB : w.ownsMap Try.prog 9 R b k D') : MapsM w1 R K bm (k + 1) := by
  refine ⟨_, h1, fun f' b' hb' => ?_⟩
  by_cases hf : Lit.int .i64 f' = .int .i64 f
  · rw [hf, atKey_put_same hm (isKey f)] at hb'
    have e := blkLit hb'
    subst e
    exact ⟨hb, D', (owns_turned hB ht (by omega)).mono (by omega)⟩
  · rw [atKey_put_other hf] at hb'
    obtain ⟨g1, D2, g2⟩ := hD f' b' hb'
    exact ⟨g1, D2, (owns_turned g2 ht (by omega)).mono (by omega)⟩

/-- a store into an inner map -/
theorem MapsM.inner {R : Value → Option (DataW Unit × List MemPlace)} {w w1 : World} {K : TypeId} {bm k b : Nat} (h : MapsM w R K bm k) (hb : bm < b) (ht : w.mapTurned w1 b) {k' : Nat} (hk : k ≤ k') {D' : DataW Unit} (hB : w1.ownsMap Try.prog 9 R b k' D') : MapsM w1 R K bm k' := by
  obtain ⟨D, ho, hD⟩ := h
  refine ⟨D, (owns_turned ho ht (by omega)).mono hk, fun f' b' hb' => ?_⟩
  obtain ⟨g1, D2, g2⟩ := hD f' b' hb'
  refine ⟨g1, ?_⟩
  by_cases e : b' = b
  · subst e; exact ⟨D', hB⟩
  · exact ⟨D2, (owns_turned g2 ht e).mono hk⟩

/-! ### The sources -/
def SrcM (w : World) (bm k : Nat) (rs : Nat → Src) : Prop :=
  ∃ D : DataW Unit, w.ownsMap Try.prog 9 (plainElem Try.prog 47) bm k D ∧ ∀ x : ByteArray, Maps.has D (keyL x) = inFew (fun i => (rs i).obj) k x

theorem SrcM.made (w : World) (rs : Nat → Src) : SrcM (w.alloc (.map #[] 0)) w.heap.size 0 rs := ⟨.map [], World.ownsMap_made _ _ _ _, fun x => rfl⟩

theorem SrcM.lt {w : World} {bm k : Nat} {rs : Nat → Src} (h : SrcM w bm k rs) : bm < w.heap.size := by
  obtain ⟨D, ho, _⟩ := h
  exact ho.lt

theorem SrcM.kept {S : Nat → Prop} {w w' : World} {bm k : Nat} {rs : Nat → Src} (h : SrcM w bm k rs) (hk : Kept S w w') (hs : ¬ S bm) : SrcM w' bm k rs := by
  obtain ⟨D, ho, hD⟩ := h
  exact ⟨D, owns_kept ho hk hs, hD⟩

theorem SrcM.step {w1 : World} {bm k : Nat} {rs : Nat → Src} {D : DataW Unit} (hD : ∀ x : ByteArray, Maps.has D (keyL x) = inFew (fun i => (rs i).obj) k x) (hm : IsMap D) {d : DataW Unit}
    (h : w1.ownsMap Try.prog 9 (plainElem Try.prog 47) bm (k + 1) (D.put (keyL (rs k).obj) d)) : SrcM w1 bm (k + 1) rs := by
  refine ⟨_, h, fun x => ?_⟩
  rw [inFew_succ]
  by_cases hx : keyL x = keyL (rs k).obj
  · rw [hx, has_put_same hm (keyL_isKey _), keyL_eq.1 hx.symm]; simp
  · rw [has_put_other hx, hD]
    have : ((rs k).obj.toList == x.toList) = false := by
      cases hc : (rs k).obj.toList == x.toList with
      | false => rfl
      | true => exact absurd (keyL_eq.2 hc).symm hx
    rw [this]; simp

/-! ### The pulls -/
def PullM (w : World) (bm k : Nat) (fr : Nat → Int) (bq : Nat → Nat) : Prop :=
  ∃ D : DataW Unit, w.ownsMap Try.prog 47 ptrElem bm k D ∧ ∀ f, D.atKey (.int .i64 f) .nil = (match lastIdx fr k f with | some j => .lit (.int .i64 (bq j : Int)) | none => .nil)

theorem PullM.made (w : World) (fr : Nat → Int) (bq : Nat → Nat) : PullM (w.alloc (.map #[] 0)) w.heap.size 0 fr bq := ⟨.map [], World.ownsMap_made _ _ _ _, fun f => rfl⟩

theorem PullM.lt {w : World} {bm k : Nat} {fr : Nat → Int} {bq : Nat → Nat} (h : PullM w bm k fr bq) : bm < w.heap.size := by
  obtain ⟨D, ho, _⟩ := h
  exact ho.lt

theorem PullM.kept {S : Nat → Prop} {w w' : World} {bm k : Nat} {fr : Nat → Int} {bq : Nat → Nat} (h : PullM w bm k fr bq) (hk : Kept S w w') (hs : ¬ S bm) : PullM w' bm k fr bq := by
  obtain ⟨D, ho, hD⟩ := h
  exact ⟨D, owns_kept ho hk hs, hD⟩

theorem PullM.congr {w : World} {bm k : Nat} {fr : Nat → Int} {bq bq' : Nat → Nat} (h : PullM w bm k fr bq) (he : ∀ j, j < k → bq j = bq' j) : PullM w bm k fr bq' := by
  obtain ⟨D, ho, hD⟩ := h
  refine ⟨D, ho, fun f => ?_⟩
  rw [hD f]
  cases hl : lastIdx fr k f with
  | none => rfl
  | some j =>
    have := (lastIdx_lt fr k f j hl).1
    show (DataW.lit (.int .i64 (bq j : Int)) : DataW Unit) = .lit (.int .i64 (bq' j : Int))
    rw [he j this]

theorem PullM.step {w1 : World} {bm k : Nat} {fr : Nat → Int} {bq : Nat → Nat} {D : DataW Unit} (hD : ∀ f, D.atKey (.int .i64 f) .nil = (match lastIdx fr k f with | some j => .lit (.int .i64 (bq j : Int)) | none => .nil)) (hm : IsMap D)
    (h : w1.ownsMap Try.prog 47 ptrElem bm (k + 1) (D.put (.int .i64 (fr k)) (.lit (.int .i64 (bq k : Int))))) : PullM w1 bm (k + 1) fr bq := by
  refine ⟨_, h, fun f => ?_⟩
  unfold lastIdx
  by_cases hf : fr k = f
  · rw [if_pos hf, hf, atKey_put_same hm (isKey f)]
  · have hne : Lit.int .i64 f ≠ .int .i64 (fr k) := fun e => hf (by injection e with _ e2; exact e2.symm)
    rw [if_neg hf, atKey_put_other hne]
    exact hD f

/-- 'p.pulls[f]' -/
theorem PullM.get {w : World} {bm k : Nat} {fr : Nat → Int} {bq : Nat → Nat} (h : PullM w bm k fr bq) {f : Int} (hf : (Lit.int .i64 f).wf = true) {j : Nat} (hj : lastIdx fr k f = some j) :
    (Instr.lookup 100 (.map (some bm)) (.int .i64 f) false).run Try.prog w = .ok (.pointer (some ⟨bq j, 0, none⟩)) w := by
  obtain ⟨D, ho, hD⟩ := h
  obtain ⟨v, ps, hrun, hv⟩ := ho.lookup law47 Try.underlying100 (zero104 w) (zd := .nil) (zp := []) rfl (key47 hf)
  have e := hD f
  rw [hj] at e
  rw [e] at hv
  rcases ptrElem_inv hv with ⟨_, h2⟩ | ⟨b, rfl, h2⟩
  · cases h2
  · have := blkLit h2
    subst this
    exact hrun

end Go.Proofs.Qxb6601307a
