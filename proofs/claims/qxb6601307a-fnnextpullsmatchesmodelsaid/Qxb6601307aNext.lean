/-
  THE WALK of NextPulls: of the plan that zzBuild laid, whatever its sources.
-/
import Derived.Test.Qxb6601307aPulls
import Derived.Test.Qxb6601307aModel
set_option linter.unusedVariables false
namespace Go.Proofs.Qxb6601307a
open Go.RowKit Go.Maps

theorem Kept.grownBy {w w' : World} {b : Nat} (h : Kept (· = b) w w') : w.grownBy w' (some b) := ⟨h.os, h.tape, h.output, h.size, fun k hk hne => h.block k hk (fun e => hne (by rw [e]))⟩

theorem PSt.keptNew {w w' : World} {I : Inp} {bp B : Nat} {bq ba qc : Nat → Nat} {L : Nat → List ByteArray} (h : PSt w I bp bq ba qc L) (ho : POrd I.p.len bp bq ba) (hB : ∀ j, j < I.p.len → bq j < B) (hk : Kept (fun b => B ≤ b) w w') : PSt w' I bp bq ba qc L := by
  intro j hj
  obtain ⟨q', h1⟩ := h j hj
  have h2 := hB j hj
  have h3 := ho.o4 j hj
  exact ⟨q', h1.kept hk (fun e => by have e' : B ≤ bq j := e; omega) (fun e => by have e' : B ≤ ba j := e; omega) (fun b hb e => by have e' : B ≤ b := e; omega)⟩

theorem PSt.congr {w : World} {I : Inp} {bp : Nat} {bq ba qc : Nat → Nat} {L L' : Nat → List ByteArray} (h : PSt w I bp bq ba qc L) (he : ∀ j, j < I.p.len → L j = L' j) : PSt w I bp bq ba qc L' := by
  intro j hj
  rw [← he j hj]
  exact h j hj

/-- a name is put among row j's asked ones -/
theorem PSt.ask {w w3 : World} {I : Inp} {bp : Nat} {bq ba qc : Nat → Nat} {L : Nat → List ByteArray} (h : PSt w I bp bq ba qc L) (ho : POrd I.p.len bp bq ba) {j : Nat} (hj : j < I.p.len) {x : ByteArray} (hown : OwnsL w3 (ba j) (L j ++ [x])) (ht : w.mapTurned w3 (ba j)) :
    PSt w3 I bp bq ba qc (updN L j (L j ++ [x])) := by
  have hk : Kept (· = ba j) w w3 := (Kept.refl (· = ba j) w).turned ht (fun _ => rfl)
  have hbj := ho.o4 j hj
  intro i hi
  obtain ⟨q', h1⟩ := h i hi
  by_cases hij : i = j
  · subst hij
    rw [updN_same]
    exact ⟨q', h1.blk.kept hk (fun e => by have e' : bq i = ba i := e; omega), h1.strs.kept hk (fun hl e => by have e' : q'.b = ba i := e; have := h1.old hl; omega), h1.len, h1.old, hown⟩
  · rw [updN_other _ _ hij]
    exact ⟨q', h1.kept hk (fun e => ho.bane hj hi e.symm) (ho.bab hi hj hij) (fun b hb e => by have e' : b = ba j := e; omega)⟩

/-- which row each daemon on the list has -/
structure JOk (I : Inp) (jof : Nat → Nat) : Prop where
  lt : ∀ i, i < I.f.len → jof i < I.p.len
  inj : ∀ i i', i < i' → i' < I.f.len → jof i ≠ jof i'

/-- NextPulls' state: daemons below k are done; out is of those below K -/
structure Nx (w : World) (I : Inp) (src : ByteArray → Bool) (bp B : Nat) (bq ba jof : Nat → Nat) (k K : Nat) (qc : Nat → Nat) (v : Value) : Prop where
  st : PSt w I bp bq ba qc (fun j => askL src (I.ps j) (qc j))
  out : w.ownsRow B 49 3 v (outL src I.ps jof I.fx qc K).length (outCells (I.mx 0) (outL src I.ps jof I.fx qc K))
  nil : (outL src I.ps jof I.fx qc K).length = 0 → v = .slice none 0 0
  done : ∀ i, i < k → Stop src (I.ps (jof i)) (qc (jof i))
  rest : ∀ j, j < I.p.len → (∀ i, i < K → jof i ≠ j) → qc j = 0
  cur : k < K → ∀ c', c' < qc (jof k) → szL (fewL (I.ps (jof k)).an (I.ps (jof k)).a.len) + (selL src (I.ps (jof k)) c').length < 64

section
variable {w : World} {I : Inp} {src : ByteArray → Bool} {bp B : Nat} {bq ba jof : Nat → Nat} {k : Nat} {qc : Nat → Nat} {v : Value}

theorem Nx.enter (h : Nx w I src bp B bq ba jof k k qc v) (hj : JOk I jof) (hk : k < I.f.len) : Nx w I src bp B bq ba jof k (k + 1) qc v := by
  have h0 : qc (jof k) = 0 := h.rest _ (hj.lt k hk) (fun i hi => hj.inj i k hi hk)
  have e : outL src I.ps jof I.fx qc (k + 1) = outL src I.ps jof I.fx qc k := by
    rw [outL_succ, h0]
    unfold outRow
    rw [selL_zero]
    simp
  refine ⟨h.st, by rw [e]; exact h.out, by rw [e]; exact h.nil, h.done, fun j hjl hne => h.rest j hjl (fun i hi => hne i (by omega)), fun _ c' hc' => ?_⟩
  rw [h0] at hc'
  exact absurd hc' (Nat.not_lt_zero _)

theorem Nx.leave (h : Nx w I src bp B bq ba jof k (k + 1) qc v) (hj : JOk I jof) (hk : k < I.f.len) (hf : qc (jof k) = (I.ps (jof k)).q.len ∨ 64 ≤ szL (fewL (I.ps (jof k)).an (I.ps (jof k)).a.len) + (selL src (I.ps (jof k)) (qc (jof k))).length) : Nx w I src bp B bq ba jof (k + 1) (k + 1) qc v := by
  refine ⟨h.st, h.out, h.nil, fun i hi => ?_, h.rest, fun hlt => absurd hlt (Nat.lt_irrefl _)⟩
  by_cases hik : i < k
  · exact h.done i hik
  · obtain rfl : i = k := by omega
    obtain ⟨q', hq⟩ := h.st _ (hj.lt i hk)
    exact ⟨by have := hq.len; omega, h.cur (by omega), hf⟩

theorem out_pop (hj : JOk I jof) (hk : k < I.f.len) (c : Nat) : outL src I.ps jof I.fx (updN qc (jof k) c) (k + 1) = outL src I.ps jof I.fx qc k ++ outRow src (I.ps (jof k)) c (I.fx k) := by
  rw [outL_succ, updN_same, outL_congr src I.ps jof I.fx (qc' := qc) k (fun i hi => updN_other _ _ (hj.inj i k hi hk))]

theorem ownNe {n : Nat} {xs : List Value} (h : w.ownsRow B 49 3 v n xs) {b : Nat} (hb : b < B) : v.ownBlock = none ∨ v.ownBlock ≠ some b := by
  cases hv : v.ownBlock with
  | none => exact .inl rfl
  | some g =>
    have := (h.lt g hv).1
    exact .inr (fun e => by cases e; omega)

/-- the name at row jof k's head is popped; it is not asked for -/
theorem Nx.no (h : Nx w I src bp B bq ba jof k (k + 1) qc v) (hsrc : ∀ x y : ByteArray, (x.toList == y.toList) = true → src x = src y) (hj : JOk I jof) (hk : k < I.f.len) (ho : POrd I.p.len bp bq ba) (hB : ∀ j, j < I.p.len → bq j < B) {q' : Sl}
    (hq : PRow w (I.ps (jof k)) bp (bq (jof k)) (ba (jof k)) (qc (jof k)) (askL src (I.ps (jof k)) (qc (jof k))) q') (hl : 0 < q'.len) (hs : selAt src (I.ps (jof k)) (qc (jof k)) = false) (h64 : szL (askL src (I.ps (jof k)) (qc (jof k))) < 64) :
    Nx (w.setCell ⟨bq (jof k), 0, none⟩ (.slice (q'.tl 1).oa (q'.tl 1).len (q'.tl 1).cap)) I src bp B bq ba jof k (k + 1) (updN qc (jof k) (qc (jof k) + 1)) v := by
  have hjl := hj.lt k hk
  have hkk : Kept (· = bq (jof k)) w (w.setCell ⟨bq (jof k), 0, none⟩ (.slice (q'.tl 1).oa (q'.tl 1).len (q'.tl 1).cap)) := (Kept.refl (· = bq (jof k)) w).setNew (p := ⟨bq (jof k), 0, none⟩) (fun _ => rfl) _
  have e : outL src I.ps jof I.fx (updN qc (jof k) (qc (jof k) + 1)) (k + 1) = outL src I.ps jof I.fx qc (k + 1) := by
    rw [out_pop hj hk, outL_succ]
    unfold outRow
    rw [selL_no hs]
  refine ⟨?_, ?_, ?_, ?_, ?_, ?_⟩
  · refine (h.st.pop ho hjl hq hl).congr (fun j hjj => ?_)
    by_cases hjk : j = jof k
    · subst hjk
      rw [updN_same, askL_no hs]
    · rw [updN_other _ _ hjk]
  · rw [e]
    exact h.out.kept hkk.grownBy (ownNe h.out (hB _ hjl))
  · rw [e]
    exact h.nil
  · intro i hi
    rw [updN_other _ _ (hj.inj i k hi hk)]
    exact h.done i hi
  · intro j hjj hne
    rw [updN_other _ _ (fun e => hne k (by omega) e.symm)]
    exact h.rest j hjj hne
  · intro _ c' hc'
    rw [updN_same] at hc'
    by_cases hcc : c' < qc (jof k)
    · exact h.cur (by omega) c' hcc
    · obtain rfl : c' = qc (jof k) := by omega
      rw [← sz_ask hsrc]
      exact h64

/-- the name at row jof k's head is popped and asked for -/
theorem Nx.yes (h : Nx w I src bp B bq ba jof k (k + 1) qc v) (hsrc : ∀ x y : ByteArray, (x.toList == y.toList) = true → src x = src y) (hj : JOk I jof) (hk : k < I.f.len) (ho : POrd I.p.len bp bq ba) (hB : ∀ j, j < I.p.len → bq j < B) {q' : Sl}
    (hq : PRow w (I.ps (jof k)) bp (bq (jof k)) (ba (jof k)) (qc (jof k)) (askL src (I.ps (jof k)) (qc (jof k))) q') (hl : 0 < q'.len) (hs : selAt src (I.ps (jof k)) (qc (jof k)) = true) (h64 : szL (askL src (I.ps (jof k)) (qc (jof k))) < 64)
    {w3 w5 : World} {v' : Value} (hown : OwnsL w3 (ba (jof k)) (askL src (I.ps (jof k)) (qc (jof k)) ++ [(I.ps (jof k)).qs (qc (jof k))])) (ht : (w.setCell ⟨bq (jof k), 0, none⟩ (.slice (q'.tl 1).oa (q'.tl 1).len (q'.tl 1).cap)).mapTurned w3 (ba (jof k)))
    (hout : w5.ownsRow B 49 3 v' ((outL src I.ps jof I.fx qc (k + 1)).length + 1) (outCells (I.mx 0) (outL src I.ps jof I.fx qc (k + 1)) ++ [.string ((I.ps (jof k)).qs (qc (jof k))), .int .i64 (I.fx k), .int .i64 (I.mx 0)]))
    (hk5 : Kept (fun b => B ≤ b) w3 w5) :
    Nx w5 I src bp B bq ba jof k (k + 1) (updN qc (jof k) (qc (jof k) + 1)) v' := by
  have hjl := hj.lt k hk
  have e : outL src I.ps jof I.fx (updN qc (jof k) (qc (jof k) + 1)) (k + 1) = outL src I.ps jof I.fx qc (k + 1) ++ [((I.ps (jof k)).qs (qc (jof k)), I.fx k)] := by
    rw [out_pop hj hk, outL_succ, List.append_assoc]
    unfold outRow
    rw [selL_yes hs, List.map_append]
    rfl
  refine ⟨?_, ?_, ?_, ?_, ?_, ?_⟩
  · refine (((h.st.pop ho hjl hq hl).ask ho hjl hown ht).keptNew ho hB hk5).congr (fun j hjj => ?_)
    by_cases hjk : j = jof k
    · subst hjk
      rw [updN_same, updN_same, askL_yes hs]
    · rw [updN_other _ _ hjk, updN_other _ _ hjk]
  · rw [e, outCells_snoc, List.length_append]
    exact hout
  · intro h0
    rw [e, List.length_append] at h0
    simp at h0
  · intro i hi
    rw [updN_other _ _ (hj.inj i k hi hk)]
    exact h.done i hi
  · intro j hjj hne
    rw [updN_other _ _ (fun e => hne k (by omega) e.symm)]
    exact h.rest j hjj hne
  · intro _ c' hc'
    rw [updN_same] at hc'
    by_cases hcc : c' < qc (jof k)
    · exact h.cur (by omega) c' hcc
    · obtain rfl : c' = qc (jof k) := by omega
      rw [← sz_ask hsrc]
      exact h64

theorem Nx.few (h : Nx w I src bp B bq ba jof k (k + 1) qc v) (hj : JOk I jof) (hk : k < I.f.len) {M : Nat} (hM : ∀ j, j < I.p.len → (I.ps j).q.len ≤ M) : (outL src I.ps jof I.fx qc (k + 1)).length ≤ (k + 1) * M := by
  refine outL_le src I.ps jof I.fx qc M (k + 1) (fun i hi => ?_)
  obtain ⟨q', hq⟩ := h.st (jof i) (hj.lt i (by omega))
  have := hq.len
  have := hM _ (hj.lt i (by omega))
  omega

end

theorem cell_at {W : World} {n j : Nat} {cs : Array Value} {e : TypeId} (h : W.heap[n]? = some (.cells cs e)) : W.cell? ⟨n, j, none⟩ = cs[j]? := by simp [World.cell?, h]

theorem cell_three_new (w : World) (a b c : Value) (e : TypeId) : ∀ (j : Nat) (u : Value), [a, b, c][j]? = some u → (w.alloc (.cells #[a, b, c] e)).cell? ((⟨w.heap.size, 0, none⟩ : Addr).add j) = some u := by
  intro j u h
  have hh := (MapKept.heap_alloc w (.cells #[a, b, c] e)).1
  have e1 : (⟨w.heap.size, 0, none⟩ : Addr).add j = ⟨w.heap.size, j, none⟩ := by
    unfold Addr.add
    by_cases h0 : j = 0
    · rw [if_pos h0, h0]
    · rw [if_neg h0, Nat.zero_add]
  rw [e1, cell_at hh]
  simpa using h

theorem info49 : ∃ i, Try.prog.info? 49 = some i ∧ i.zero = some (.agg #[.string ByteArray.empty, .int .i64 0, .int .i64 0]) ∧ i.size = 3 ∧ i.bytes = 32 := by
  have h : (Try.prog.info? 49).map (fun i => (i.zero, i.size, i.bytes)) = some (some (.agg #[.string ByteArray.empty, .int .i64 0, .int .i64 0]), 3, 32) := by kernel_rfl
  obtain ⟨i, hi, hz⟩ := Option.map_eq_some_iff.1 h
  simp only [Prod.mk.injEq] at hz
  exact ⟨i, hi, hz.1, hz.2.1, hz.2.2⟩

/-- what NextPulls leaves -/
def NxPost (w w' : World) (I : Inp) (src : ByteArray → Bool) (bp : Nat) (bq ba jof : Nat → Nat) (e : Ending) : Prop :=
  ∃ v qc, e = .returned v ∧ Nx w' I src bp w.heap.size bq ba jof I.f.len I.f.len qc v ∧ After bp w w'

/-- is it in the sources? -/
def srcOf (I : Inp) : ByteArray → Bool := fun x => inFew (fun i => (I.rs i).obj) I.r.len x

theorem srcOf_same (I : Inp) (x y : ByteArray) (h : (x.toList == y.toList) = true) : srcOf I x = srcOf I y := inFew_same _ _ h

set_option maxRecDepth 100000 in
set_option maxHeartbeats 4000000 in
theorem next15 (w : World) (I : Inp) {bp b1 b2 b3 b5 gm gf hi : Nat} {bq ba jof : Nat → Nat} (B : Built w I bp b1 b2 b3 b5 gm gf hi bq ba) (hbf : gf < bp) (hbm : gm < bp) (h0 : 0 < I.m.len)
    (hq : ∀ j, j < I.p.len → StrsAt w (I.ps j).q (I.ps j).qs) (hb : ∀ j, j < I.p.len → 0 < (I.ps j).q.len → (I.ps j).q.b < bp) (hj : JOk I jof) (hl : ∀ k, k < I.f.len → lastIdx (fun k => (I.ps k).frm) I.p.len (I.fx k) = some (jof k))
    (hs : I.Small) : Calls Try.prog 15 #[.pointer (some ⟨bp, 0, none⟩)] w fun e w' => NxPost w w' I (srcOf I) bp bq ba jof e := by
  have hc4 : w.cell? ⟨bp, 4, none⟩ = some (.slice (some ⟨gf, 0, none⟩) I.f.len I.f.len) := B.plan.c4
  have HO : Hid (POrd I.p.len bp bq ba) := B.ord
  have hbw : bp < w.heap.size := B.plan.lt
  have HBQ : Hid (∀ j, j < I.p.len → bq j < w.heap.size) := fun j hj => (B.rowB j hj).lt
  have HN0 : Hid (Nx w I (srcOf I) bp w.heap.size bq ba jof 0 0 (fun _ => 0) (.slice none 0 0)) := ⟨(B.start hq hb).congr (fun j _ => (askL_zero _ _).symm), World.ownsRow_nil _ _ _ _, fun _ => rfl, fun i hi => absurd hi (Nat.not_lt_zero _), fun _ _ _ => rfl, fun hlt => absurd hlt (Nat.lt_irrefl _)⟩
  have HC0 : Hid (∀ W, After bp w W → W.cell? ⟨bp, 0, none⟩ = some (.slice (some ⟨gm, 0, none⟩) I.m.len I.m.len)) := fun W hk => hk.cell (p := ⟨bp, 0, none⟩) (fun h => absurd h (Nat.lt_irrefl _)) B.plan.c0
  have HC2 : Hid (∀ W, After bp w W → W.cell? ⟨bp, 2, none⟩ = some (.map (some b2))) := fun W hk => hk.cell (p := ⟨bp, 2, none⟩) (fun h => absurd h (Nat.lt_irrefl _)) B.plan.c2
  have HC3 : Hid (∀ W, After bp w W → W.cell? ⟨bp, 3, none⟩ = some (.map (some b3))) := fun W hk => hk.cell (p := ⟨bp, 3, none⟩) (fun h => absurd h (Nat.lt_irrefl _)) B.plan.c3
  have HF : Hid (IntsAt w (newSl gf I.f.len) I.fx) := B.frm
  have HM : Hid (IntsAt w (newSl gm I.m.len) I.mx) := B.mem
  have HP : Hid (PullM w b3 I.p.len (fun k => (I.ps k).frm) bq) := B.pull
  have HS : Hid (SrcM w b2 I.r.len I.rs) := B.src
  have ho2 := B.o2
  have ho3 := B.o3
  have HJ : Hid (JOk I jof) := hj
  have HL : Hid (∀ k, k < I.f.len → lastIdx (fun k => (I.ps k).frm) I.p.len (I.fx k) = some (jof k)) := hl
  have HSM : Hid I.Small := hs
  have hfl : I.f.len ≤ 1048576 := hs.f
  have him : ∀ w, (Instr.indexAt 88 (.slice (some ⟨gm, 0, none⟩) I.m.len I.m.len) (.int .i64 0)).run Try.prog w = .ok (.pointer (some ⟨gm, 0, none⟩)) w := fun w => B.mem.ok.i88 (k := 0) h0 w
  obtain ⟨i0, hinf, hz0, hz1, hz2⟩ := info49
  have HINF : Hid (Try.prog.info? 49 = some i0) := hinf
  have HZ0 : Hid (i0.zero = some (.agg #[.string ByteArray.empty, .int .i64 0, .int .i64 0])) := hz0
  have HZ1 : Hid (i0.size = 3) := hz1
  have HZ2 : Hid (i0.bytes = 32) := hz2
  clear B hq hb hj hl hs hinf hz0 hz1 hz2
  go_enter Try.func15, Try.ntmps15
  go_wp2_with fail
  go_loopw [3, 15] (fun t3 t wr => ∃ (k : Nat) (qc : Nat → Nat), t = .int .i64 k ∧ k ≤ I.f.len ∧ Nx wr I (srcOf I) bp w.heap.size bq ba jof k k qc t3 ∧ After bp w wr) (fun _ t _ => I.f.len - (intOf t).toNat)
  case atStart => exact ⟨0, _, rfl, Nat.zero_le _, HN0.out, Kept.refl _ _⟩
  case round =>
    obtain ⟨k, qc0, rfl, hk, hN, hK⟩ := hrel
    by_cases hlt : k < I.f.len
    · have HN1 : Hid (Nx wr I (srcOf I) bp w.heap.size bq ba jof k (k + 1) qc0 _) := hN.enter HJ.out hlt
      have HK : Hid (After bp w wr) := hK
      clear hN hK
      have HFr : Hid (IntsAt wr (newSl gf I.f.len) I.fx) := HF.out.kept HK.out (fun _ h => by have h' : bp < gf := h; omega)
      have hix : ∀ w, (Instr.indexAt 88 (.slice (some ⟨gf, 0, none⟩) I.f.len I.f.len) (.int .i64 k)).run Try.prog w = .ok (.pointer (some ⟨gf, k, none⟩)) w := fun w => by have := HFr.out.ok.i88 (k := k) hlt w; rwa [Nat.zero_add] at this
      have hcx : wr.cell? ⟨gf, k, none⟩ = some (.int .i64 (I.fx k)) := by have := HFr.out.cell k hlt; rwa [Nat.zero_add] at this
      have hcp := HC3.out wr HK.out
      have hjl := HJ.out.lt k hlt
      have hget := (HP.out.kept HK.out (fun h => by have h' : bp < b3 := h; omega)).get (HFr.out.wf k hlt) (HL.out k hlt)
      obtain ⟨w1, rfl⟩ : ∃ w1, w1 = wr := ⟨wr, rfl⟩
      go_wp2_with fail
      go_loopw [3] (fun t3 wr => (∃ qc, Nx wr I (srcOf I) bp w.heap.size bq ba jof k (k + 1) qc t3) ∧ After bp w wr) (fun _ wr => qLen wr (bq (jof k)))
      case atStart => exact ⟨⟨_, HN1.out⟩, HK.out⟩
      case round =>
        obtain ⟨⟨qc, hN2⟩, hK2⟩ := hrel
        obtain ⟨q', hrow⟩ := hN2.st (jof k) hjl
        have HN2 : Hid (Nx wr I (srcOf I) bp w.heap.size bq ba jof k (k + 1) qc _) := hN2
        have HK2 : Hid (After bp w wr) := hK2
        have HRow : Hid (PRow wr (I.ps (jof k)) bp (bq (jof k)) (ba (jof k)) (qc (jof k)) (askL (srcOf I) (I.ps (jof k)) (qc (jof k))) q') := hrow
        have hd0 := HRow.out.blk.c0
        have hd1 := HRow.out.blk.c1
        have hfr := HRow.out.blk.free 0
        have hlen := HRow.out.own.len
        have HQL : Hid (qLen wr (bq (jof k)) = q'.len) := qLen_eq HRow.out.blk
        obtain ⟨z, hz⟩ : ∃ z, z = szL (askL (srcOf I) (I.ps (jof k)) (qc (jof k))) := ⟨_, rfl⟩
        have HZ : Hid (z = szL (askL (srcOf I) (I.ps (jof k)) (qc (jof k)))) := hz
        rw [← hz] at hlen
        clear hN2 hK2 hrow hz
        by_cases hz64 : z < 64
        · have hz64' : (z : Int) < 64 := by omega
          by_cases hl0 : 0 < q'.len
          · have hl0' : (0 : Int) < q'.len := by omega
            have hi0 : ∀ w, (Instr.indexAt 43 (.slice q'.oa q'.len q'.cap) (.int .i64 0)).run Try.prog w = .ok (.pointer (some ⟨q'.b, q'.o, none⟩)) w := fun w => HRow.out.strs.ok.i43 (k := 0) hl0 w
            have hx0 : wr.cell? ⟨q'.b, q'.o, none⟩ = some (.string ((I.ps (jof k)).qs (qc (jof k)))) := HRow.out.strs.cell 0 hl0
            have hsl0 : ∀ w, (Instr.slice 43 (.slice q'.oa q'.len q'.cap) (some (.int .i64 1)) none none).run Try.prog w = .ok (.slice (q'.tl 1).oa (q'.tl 1).len (q'.tl 1).cap) w := fun w => tl_run (T := 43) (by kernel_rfl) sz43 q' (c := 1) hl0 w
            have HQ3 : Hid (qLen (wr.setCell ⟨bq (jof k), 0, none⟩ (.slice (q'.tl 1).oa (q'.tl 1).len (q'.tl 1).cap)) (bq (jof k)) = q'.len - 1) := qLen_eq (HRow.out.blk.pop (q'.tl 1))
            have HK3 : Hid (After bp w (wr.setCell ⟨bq (jof k), 0, none⟩ (.slice (q'.tl 1).oa (q'.tl 1).len (q'.tl 1).cap))) := HK2.out.setNew (p := ⟨bq (jof k), 0, none⟩) (fun _ => Nat.lt_trans (HO.out.o4 _ hjl).1 (HO.out.o4 _ hjl).2) _
            have H64 : Hid (szL (askL (srcOf I) (I.ps (jof k)) (qc (jof k))) < 64) := HZ.out ▸ hz64
            have HSEL : Hid ((srcOf I ((I.ps (jof k)).qs (qc (jof k))) && !inL (askL (srcOf I) (I.ps (jof k)) (qc (jof k))) ((I.ps (jof k)).qs (qc (jof k)))) = selAt (srcOf I) (I.ps (jof k)) (qc (jof k))) := sel_step (srcOf_same I) _ _
            have HNO := fun hs => HN2.out.no (srcOf_same I) HJ.out hlt HO.out HBQ.out HRow.out hl0 hs H64.out
            have hk2 : Kept (· = bq (jof k)) wr (wr.setCell ⟨bq (jof k), 0, none⟩ (.slice (q'.tl 1).oa (q'.tl 1).len (q'.tl 1).cap)) := (Kept.refl (· = bq (jof k)) wr).setNew (p := ⟨bq (jof k), 0, none⟩) (fun _ => rfl) _
            have HOW2 : Hid (OwnsL (wr.setCell ⟨bq (jof k), 0, none⟩ (.slice (q'.tl 1).oa (q'.tl 1).len (q'.tl 1).cap)) (ba (jof k)) (askL (srcOf I) (I.ps (jof k)) (qc (jof k)))) := HRow.out.own.kept hk2 (HO.out.bane hjl hjl)
            have HPB2 : Hid (PullB (wr.setCell ⟨bq (jof k), 0, none⟩ (.slice (q'.tl 1).oa (q'.tl 1).len (q'.tl 1).cap)) (bq (jof k)) (q'.tl 1) (ba (jof k))) := HRow.out.blk.pop (q'.tl 1)
            have HOUT2 : Hid ((wr.setCell ⟨bq (jof k), 0, none⟩ (.slice (q'.tl 1).oa (q'.tl 1).len (q'.tl 1).cap)).ownsRow w.heap.size 49 3 _ (outL (srcOf I) I.ps jof I.fx qc (k + 1)).length (outCells (I.mx 0) (outL (srcOf I) I.ps jof I.fx qc (k + 1)))) := HN2.out.out.kept hk2.grownBy (ownNe HN2.out.out (HBQ.out _ hjl))
            obtain ⟨T, hT⟩ : ∃ T, T = q'.tl 1 := ⟨_, rfl⟩
            rw [← hT] at hsl0 HQ3 HK3 HOW2 HPB2 HOUT2 HNO
            have hsl : ∀ w, (Instr.slice 43 (.slice q'.oa q'.len q'.cap) (some (.int .i64 1)) none none).run Try.prog w = .ok (.slice T.oa T.len T.cap) w := hsl0
            have hcs := HC2.out _ HK3.out
            have hsm : ((I.ps (jof k)).qs (qc (jof k))).size ≤ maxLen := HRow.out.strs.small 0 hl0
            obtain ⟨c, hlook0⟩ := (HS.out.kept HK3.out (fun h => by have h' : bp < b2 := h; omega)).look hsm
            have hlook : (Instr.lookup 96 (.map (some b2)) (.string ((I.ps (jof k)).qs (qc (jof k)))) true).run Try.prog (wr.setCell ⟨bq (jof k), 0, none⟩ (.slice T.oa T.len T.cap)) = .ok (.tuple #[.int .i64 c, .bool (srcOf I ((I.ps (jof k)).qs (qc (jof k))))]) (wr.setCell ⟨bq (jof k), 0, none⟩ (.slice T.oa T.len T.cap)) := hlook0
            have HNO' : Hid (selAt (srcOf I) (I.ps (jof k)) (qc (jof k)) = false → Nx (wr.setCell ⟨bq (jof k), 0, none⟩ (.slice T.oa T.len T.cap)) I (srcOf I) bp w.heap.size bq ba jof k (k + 1) (updN qc (jof k) (qc (jof k) + 1)) _) := HNO
            have HT : Hid (T = q'.tl 1) := hT
            clear hT hsl0 hlook0 HNO hk2
            cases hsx : srcOf I ((I.ps (jof k)).qs (qc (jof k))) with
            | false =>
              rw [hsx] at hlook HSEL
              have HN3 := HNO'.out HSEL.out.symm
              have HN3' : Hid (Nx (wr.setCell ⟨bq (jof k), 0, none⟩ (.slice T.oa T.len T.cap)) I (srcOf I) bp w.heap.size bq ba jof k (k + 1) (updN qc (jof k) (qc (jof k) + 1)) _) := HN3
              clear HN3 hsx HSEL HNO'
              go_wp2_with fail
              go_roundw
              case rel => exact ⟨⟨_, HN3'.out⟩, HK3.out⟩
              case measure => rw [HQ3.out, HQL.out]; omega
            | true =>
              have hlA := HOW2.out.look hsm
              have hd1b := HPB2.out.c1
              rw [hsx, Bool.true_and] at HSEL
              rw [hsx] at hlook
              cases hin : inL (askL (srcOf I) (I.ps (jof k)) (qc (jof k))) ((I.ps (jof k)).qs (qc (jof k))) with
              | true =>
                rw [hin] at hlA HSEL
                have HN3 := HNO'.out HSEL.out.symm
                have HN3' : Hid (Nx (wr.setCell ⟨bq (jof k), 0, none⟩ (.slice T.oa T.len T.cap)) I (srcOf I) bp w.heap.size bq ba jof k (k + 1) (updN qc (jof k) (qc (jof k) + 1)) _) := HN3
                clear HN3 hsx hin HSEL HNO'
                go_wp2_with fail
                go_roundw
                case rel => exact ⟨⟨_, HN3'.out⟩, HK3.out⟩
                case measure => rw [HQ3.out, HQL.out]; omega
              | false =>
                rw [hin] at hlA HSEL
                have HSEL' : Hid (selAt (srcOf I) (I.ps (jof k)) (qc (jof k)) = true) := HSEL.out.symm
                have hLl : (askL (srcOf I) (I.ps (jof k)) (qc (jof k))).length < maxLen := by
                  have h1 := selL_le (srcOf I) (I.ps (jof k)) (qc (jof k))
                  have h2 := HSM.out.a _ hjl
                  have h3 := HSM.out.q _ hjl
                  have h4 := HRow.out.len
                  unfold askL
                  rw [List.length_append, List.length_map]
                  have h5 : (fewL (I.ps (jof k)).an (I.ps (jof k)).a.len).length = (I.ps (jof k)).a.len := by simp [fewL]
                  rw [h5]
                  unfold maxLen
                  omega
                obtain ⟨w3, hrun3, hown3, hturn3⟩ := World.ownsMap.store HOW2.out law9 Try.underlying39 hLl (key9 hsm) (plainElem_bool Try.underlying4 true)
                have HOWN3 : Hid (OwnsL w3 (ba (jof k)) (askL (srcOf I) (I.ps (jof k)) (qc (jof k)) ++ [(I.ps (jof k)).qs (qc (jof k))])) := OwnsL.stored hown3
                have HTURN3 : Hid ((wr.setCell ⟨bq (jof k), 0, none⟩ (.slice T.oa T.len T.cap)).mapTurned w3 (ba (jof k))) := hturn3
                have HK4 : Hid (After bp w w3) := HK3.out.turned hturn3 (fun _ => (HO.out.o4 _ hjl).1)
                have HOUT3 : Hid (w3.ownsRow w.heap.size 49 3 _ (outL (srcOf I) I.ps jof I.fx qc (k + 1)).length (outCells (I.mx 0) (outL (srcOf I) I.ps jof I.fx qc (k + 1)))) := HOUT2.out.kept hturn3.grown (ownNe HOUT2.out (Nat.lt_trans (HO.out.o4 _ hjl).2 (HBQ.out _ hjl)))
                have hcm := HC0.out w3 HK4.out
                have hcm0 : w3.cell? ⟨gm, 0, none⟩ = some (.int .i64 (I.mx 0)) := (HM.out.kept HK4.out (fun _ h => by have h' : bp < gm := h; omega)).cell 0 h0
                have HFEW : Hid ((outL (srcOf I) I.ps jof I.fx qc (k + 1)).length ≤ 1048576 * 1048576) := by
                  have h1 := HN2.out.few HJ.out hlt (M := 1048576) HSM.out.q
                  have h2 : (k + 1) * 1048576 ≤ 1048576 * 1048576 := Nat.mul_le_mul_right _ (by omega)
                  exact Nat.le_trans h1 h2
                have HWS : Hid (w.heap.size ≤ w3.heap.size) := HK4.out.size
                have HPB3 : Hid (PullB w3 (bq (jof k)) T (ba (jof k))) := HPB2.out.kept ((Kept.refl (· = ba (jof k)) _).turned hturn3 (fun _ => rfl)) (fun h => by have h' : bq (jof k) = ba (jof k) := h; have := (HO.out.o4 _ hjl).2; omega)
                clear hsx hin HSEL HNO' hLl hown3 hturn3
                go_wp2_with (at_builtin; refine wpList_append_own _ rfl _ _ 37 rfl w.heap.size 49 i0 (.agg #[.string ByteArray.empty, .int .i64 0, .int .i64 0]) 3 32 Try.underlying37 HINF.out HZ0.out HZ1.out HZ2.out rfl (by decide) _ _ _ rfl (HOUT3.out.alloc _) ⟨w3.heap.size, 0, none⟩ 1 1 [.string ((I.ps (jof k)).qs (qc (jof k))), .int .i64 (I.fx k), .int .i64 (I.mx 0)] rfl rfl (cell_three_new _ _ _ _ _) (by intro u hu; simp at hu; rcases hu with rfl | rfl | rfl <;> rfl) (by have := HFEW.out; unfold maxLen; omega) (by have := HFEW.out; omega) (by have := HWS.out; simp; omega) ?_; intro v' w5 hown5 hg5 hnil5)
                have HOUT5 : Hid (w5.ownsRow w.heap.size 49 3 v' ((outL (srcOf I) I.ps jof I.fx qc (k + 1)).length + 1) (outCells (I.mx 0) (outL (srcOf I) I.ps jof I.fx qc (k + 1)) ++ [.string ((I.ps (jof k)).qs (qc (jof k))), .int .i64 (I.fx k), .int .i64 (I.mx 0)])) := hown5
                have hkk5 : Kept (fun b => w.heap.size ≤ b) w3 w5 := ((Kept.refl (fun b => w.heap.size ≤ b) w3).alloc _).grown hg5 (fun j hjj _ => (HOUT3.out.lt j hjj).1)
                have HK5 : Hid (Kept (fun b => w.heap.size ≤ b) w3 w5) := hkk5
                clear hown5 hg5 hkk5
                go_wp2_with fail
                go_roundw
                case rel =>
                  have e := HT.out
                  subst e
                  exact ⟨⟨_, HN2.out.yes (srcOf_same I) HJ.out hlt HO.out HBQ.out HRow.out hl0 HSEL'.out H64.out HOWN3.out HTURN3.out HOUT5.out HK5.out⟩, HK4.out.trans (HK5.out.mono (fun b _ hb => by have hb' : w.heap.size ≤ b := hb; show bp < b; omega))⟩
                case measure =>
                  have e := HT.out
                  subst e
                  have h5 : qLen w5 (bq (jof k)) = (q'.tl 1).len := qLen_eq (HPB3.out.kept HK5.out (fun h => by have h' : w.heap.size ≤ bq (jof k) := h; have := HBQ.out _ hjl; omega))
                  rw [h5, HQL.out]
                  show q'.len - 1 < q'.len
                  omega
          · have hl0' : ¬ (0 : Int) < q'.len := by omega
            have hfin : qc (jof k) = (I.ps (jof k)).q.len := by have := HRow.out.len; omega
            have HN3 : Hid (Nx wr I (srcOf I) bp w.heap.size bq ba jof (k + 1) (k + 1) qc _) := HN2.out.leave HJ.out hlt (.inl hfin)
            clear hfin
            go_wp2_with fail
            go_roundw
            case rel => exact ⟨k + 1, qc, by go_num, by omega, HN3.out, HK2.out⟩
            case measure => simp [intOf]; omega
        · have hz64' : ¬ (z : Int) < 64 := by omega
          have HN3 : Hid (Nx wr I (srcOf I) bp w.heap.size bq ba jof (k + 1) (k + 1) qc _) := HN2.out.leave HJ.out hlt (.inr (by have := HZ.out; rw [sz_ask (srcOf_same I)] at this; omega))
          go_wp2_with fail
          go_roundw
          case rel => exact ⟨k + 1, qc, by go_num, by omega, HN3.out, HK2.out⟩
          case measure => simp [intOf]; omega
    · have hkl : k = I.f.len := by omega
      subst hkl
      have HN : Hid (Nx wr I (srcOf I) bp w.heap.size bq ba jof I.f.len I.f.len qc0 _) := hN
      have HK : Hid (After bp w wr) := hK
      clear hN hK
      go_wp2_with fail
      go_ret
      exact ⟨_, qc0, rfl, HN.out, HK.out⟩

end Go.Proofs.Qxb6601307a
