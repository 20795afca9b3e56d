/-
  WHAT THE LAW KNOWS behind NextPulls. No walk here.
-/
import Derived.Test.Qxb6601307aLook
set_option linter.unusedVariables false
namespace Go.Proofs.Qxb6601307a
open Go.RowKit Go.Maps

theorem New.grownBy {w w' : World} (h : New w w') : w.grownBy w' none := ⟨h.os, h.tape, h.output, h.size, fun k hk _ => h.block k hk (fun e => e)⟩

theorem own_new {w w' : World} {B : Nat} {e : TypeId} {s : Nat} {v : Value} {n : Nat} {xs : List Value} (h : w.ownsRow B e s v n xs) (hk : New w w') : w'.ownsRow B e s v n xs := by
  refine h.kept (New.grownBy hk) ?_
  cases v.ownBlock with
  | none => exact .inl rfl
  | some g => exact .inr (by simp)

theorem Nx.new {w w' : World} {I : Inp} {src : ByteArray → Bool} {bp B : Nat} {bq ba jof : Nat → Nat} {k K : Nat} {qc : Nat → Nat} {v : Value} (h : Nx w I src bp B bq ba jof k K qc v) (hk : New w w') : Nx w' I src bp B bq ba jof k K qc v :=
  ⟨fun j hj => by obtain ⟨q', hq⟩ := h.st j hj; exact ⟨q', hq.kept hk (fun e => e) (fun e => e) (fun _ _ e => e)⟩, own_new h.out hk, h.nil, h.done, h.rest, h.cur⟩

/-- what the law knows behind NextPulls -/
structure Env (w : World) (I : Inp) (bp b3 bi B : Nat) (bq ba jof qc : Nat → Nat) (v : Value) : Prop where
  inn : I.In w
  c3 : w.cell? ⟨bp, 3, none⟩ = some (.map (some b3))
  pull : PullM w b3 I.p.len (fun k => (I.ps k).frm) bq
  idx : OwnsIdx w bi I.p.len (fun k => (I.ps k).frm)
  nx : Nx w I (srcOf I) bp B bq ba jof I.f.len I.f.len qc v

theorem Env.new {w w' : World} {I : Inp} {bp b3 bi B : Nat} {bq ba jof qc : Nat → Nat} {v : Value} (h : Env w I bp b3 bi B bq ba jof qc v) (hk : New w w') : Env w' I bp b3 bi B bq ba jof qc v :=
  ⟨h.inn.new hk, hk.cell (p := ⟨bp, 3, none⟩) (fun e => e) h.c3, h.pull.kept hk (fun e => e), h.idx.kept hk (fun e => e), h.nx.new hk⟩

/-! ### The transfers, one by one -/
theorem outL_prefix (src : ByteArray → Bool) (ps : Nat → PullR) (jof : Nat → Nat) (fx : Nat → Int) (qc : Nat → Nat) {k K : Nat} (h : k ≤ K) : ∃ r, outL src ps jof fx qc K = outL src ps jof fx qc k ++ r := by
  obtain ⟨d, rfl⟩ := Nat.exists_eq_add_of_le h
  induction d with
  | zero => exact ⟨[], by simp⟩
  | succ d ih =>
    obtain ⟨r, hr⟩ := ih (by omega)
    rw [show k + (d + 1) = (k + d) + 1 by omega, outL_succ, hr]
    exact ⟨_, List.append_assoc _ _ _⟩

theorem outL_get (src : ByteArray → Bool) (ps : Nat → PullR) (jof : Nat → Nat) (fx : Nat → Int) (qc : Nat → Nat) {k K t : Nat} (h : k < K) (ht : t < (selL src (ps (jof k)) (qc (jof k))).length) :
    (outL src ps jof fx qc K)[(outL src ps jof fx qc k).length + t]? = some ((ps (jof k)).qs ((selL src (ps (jof k)) (qc (jof k)))[t]), fx k) := by
  obtain ⟨r, hr⟩ := outL_prefix src ps jof fx qc (show k + 1 ≤ K from h)
  rw [hr, outL_succ, List.append_assoc, List.getElem?_append_right (by omega), Nat.add_sub_cancel_left, List.getElem?_append_left (by rw [outRow_len]; exact ht)]
  unfold outRow
  rw [List.getElem?_map, List.getElem?_eq_getElem ht]
  rfl

theorem outL_len (src : ByteArray → Bool) (ps : Nat → PullR) (jof : Nat → Nat) (fx : Nat → Int) (qc : Nat → Nat) (k : Nat) : (outL src ps jof fx qc (k + 1)).length = (outL src ps jof fx qc k).length + (selL src (ps (jof k)) (qc (jof k))).length := by
  rw [outL_succ, List.length_append, outRow_len]

theorem outL_mono (src : ByteArray → Bool) (ps : Nat → PullR) (jof : Nat → Nat) (fx : Nat → Int) (qc : Nat → Nat) {k K : Nat} (h : k ≤ K) : (outL src ps jof fx qc k).length ≤ (outL src ps jof fx qc K).length := by
  obtain ⟨r, hr⟩ := outL_prefix src ps jof fx qc h
  rw [hr, List.length_append]
  omega

/-- the transfers' slice -/
structure GotAt (w : World) (s : Sl) (l : List (ByteArray × Int)) (m0 : Int) : Prop where
  ok : s.Ok
  len : s.len = l.length
  nil : s.oa = none ↔ s.len = 0
  c0 : ∀ i x, l[i]? = some x → w.cell? ⟨s.b, s.o + i * 3, none⟩ = some (.string x.1)
  c1 : ∀ i x, l[i]? = some x → w.cell? ⟨s.b, s.o + i * 3 + 1, none⟩ = some (.int .i64 x.2)
  c2 : ∀ i x, l[i]? = some x → w.cell? ⟨s.b, s.o + i * 3 + 2, none⟩ = some (.int .i64 m0)

theorem add_lit (g j : Nat) : (⟨g, 0, none⟩ : Addr).add j = ⟨g, j, none⟩ := by
  unfold Addr.add
  by_cases h0 : j = 0
  · rw [if_pos h0, h0]
  · rw [if_neg h0, Nat.zero_add]

theorem gotAt {w : World} {B : Nat} {v : Value} {l : List (ByteArray × Int)} {m0 : Int} (h : w.ownsRow B 49 3 v l.length (outCells m0 l)) (hn : l.length = 0 → v = .slice none 0 0) : ∃ s : Sl, v = .slice s.oa s.len s.cap ∧ GotAt w s l m0 := by
  have hcells := fun g (hg : v.ownBlock = some g) => h.cells hg
  rcases h.2 with ⟨rfl, h0⟩ | ⟨g, cap, cur, rfl, hb, hg, hnc, hcm, hcs, ht⟩
  · have hl : l = [] := List.eq_nil_of_length_eq_zero h0
    subst hl
    exact ⟨nilSl, rfl, nilSl_ok, rfl, ⟨fun _ => rfl, fun _ => rfl⟩, fun i x hx => by simp at hx, fun i x hx => by simp at hx, fun i x hx => by simp at hx⟩
  · have hc := hcells g rfl
    have hpos : 0 < l.length := by
      cases hl : l.length with
      | zero => rw [hl] at hn; have := hn rfl; cases this
      | succ n => omega
    refine ⟨⟨some ⟨g, 0, none⟩, l.length, cap, g, 0⟩, rfl, ⟨fun _ => rfl, fun h => (by cases h), hnc⟩, rfl, ⟨fun h => (by cases h), fun h => ?_⟩, fun i x hx => ?_, fun i x hx => ?_, fun i x hx => ?_⟩
    · have h' : l.length = 0 := h
      omega
    · have := hc _ _ (outCells_get m0 l i x hx).1
      rw [add_lit] at this
      show w.cell? ⟨g, 0 + i * 3, none⟩ = _
      rw [Nat.zero_add]; exact this
    · have := hc _ _ (outCells_get m0 l i x hx).2.1
      rw [add_lit] at this
      show w.cell? ⟨g, 0 + i * 3 + 1, none⟩ = _
      rw [Nat.zero_add]; exact this
    · have := hc _ _ (outCells_get m0 l i x hx).2.2
      rw [add_lit] at this
      show w.cell? ⟨g, 0 + i * 3 + 2, none⟩ = _
      rw [Nat.zero_add]; exact this

theorem GotAt.new {w w' : World} {s : Sl} {l : List (ByteArray × Int)} {m0 : Int} (h : GotAt w s l m0) (hk : New w w') : GotAt w' s l m0 :=
  ⟨h.ok, h.len, h.nil, fun i x hx => hk.cell (p := ⟨s.b, s.o + i * 3, none⟩) (fun e => e) (h.c0 i x hx), fun i x hx => hk.cell (p := ⟨s.b, s.o + i * 3 + 1, none⟩) (fun e => e) (h.c1 i x hx), fun i x hx => hk.cell (p := ⟨s.b, s.o + i * 3 + 2, none⟩) (fun e => e) (h.c2 i x hx)⟩

theorem sz37 (w : World) : (sizeOf (Try.prog.elem 37)).run Try.prog w = .ok 3 w := by kernel_rfl
theorem Sl.Ok.i37 {x : Sl} (h : x.Ok) {k : Nat} (hk : k < x.len) (w : World) : (Instr.indexAt 37 (.slice x.oa x.len x.cap) (.int .i64 k)).run Try.prog w = .ok (.pointer (some ⟨x.b, x.o + k * 3, none⟩)) w := index_run (T := 37) (E := 49) (by kernel_rfl) sz37 h.addr hk x.cap w

/-! ### A list of positions that was appended to -/
def posV (l : List Nat) : List Value := l.map fun (t : Nat) => .int .i64 (t : Int)

theorem posAt {w : World} {B : Nat} {v : Value} {l : List Nat} (h : w.ownsRow B 3 1 v l.length (posV l)) : ∃ s : Sl, v = .slice s.oa s.len s.cap ∧ s.Ok ∧ s.len = l.length ∧ ∀ (i x : Nat), l[i]? = some x → w.cell? ⟨s.b, s.o + i, none⟩ = some (.int .i64 (x : Int)) := by
  have hcells := fun g (hg : v.ownBlock = some g) => h.cells hg
  rcases h.2 with ⟨rfl, h0⟩ | ⟨g, cap, cur, rfl, hb, hg, hnc, hcm, hcs, ht⟩
  · have hl : l = [] := List.eq_nil_of_length_eq_zero h0
    subst hl
    exact ⟨nilSl, rfl, nilSl_ok, rfl, fun i x hx => by simp at hx⟩
  · have hc := hcells g rfl
    refine ⟨⟨some ⟨g, 0, none⟩, l.length, cap, g, 0⟩, rfl, ⟨fun _ => rfl, fun h => (by cases h), hnc⟩, rfl, fun i x hx => ?_⟩
    have := hc i (.int .i64 (x : Int)) (by unfold posV; rw [List.getElem?_map, hx]; rfl)
    rw [add_lit] at this
    show w.cell? ⟨g, 0 + i, none⟩ = _
    rw [Nat.zero_add]; exact this

theorem cell_one_new' (w : World) (a : Value) (e : TypeId) : ∀ (j : Nat) (u : Value), [a][j]? = some u → (w.alloc (.cells #[a] e)).cell? ((⟨w.heap.size, 0, none⟩ : Addr).add j) = some u := by
  intro j u h
  have hh := (MapKept.heap_alloc w (.cells #[a] e)).1
  rw [add_lit, cell_at hh]
  simpa using h

theorem info3 : ∃ i, Try.prog.info? 3 = some i ∧ i.zero = some (.int .i64 0) ∧ i.size = 1 ∧ i.bytes = 8 := by
  have h : (Try.prog.info? 3).map (fun i => (i.zero, i.size, i.bytes)) = some (some (.int .i64 0), 1, 8) := by kernel_rfl
  obtain ⟨i, hi, hz⟩ := Option.map_eq_some_iff.1 h
  simp only [Prod.mk.injEq] at hz
  exact ⟨i, hi, hz.1, hz.2.1, hz.2.2⟩

/-! ### The daemons met so far (map[int]bool) -/
def inF (fx : Nat → Int) (k : Nat) (f : Int) : Bool := (List.range k).any fun i => fx i == f

theorem inF_succ (fx : Nat → Int) (k : Nat) (f : Int) : inF fx (k + 1) f = (inF fx k f || fx k == f) := by
  unfold inF; rw [List.range_succ, List.any_append]; simp

theorem inF_no {fx : Nat → Int} {k : Nat} {f : Int} (h : inF fx k f = false) {i : Nat} (hi : i < k) : fx i ≠ f := by
  intro e
  have : inF fx k f = true := by
    unfold inF
    rw [List.any_eq_true]
    exact ⟨i, List.mem_range.2 hi, by simp [e]⟩
  rw [h] at this
  cases this

theorem litI_ne {a b : Int} (h : a ≠ b) : Lit.int .i64 b ≠ .int .i64 a := fun e => h (by injection e with _ e2; exact e2.symm)

def OwnsF (w : World) (bm k : Nat) (fx : Nat → Int) : Prop :=
  ∃ D : DataW Unit, w.ownsMap Try.prog 3 (plainElem Try.prog 4) bm k D ∧ ∀ f, D.atKey (.int .i64 f) (.lit (.bool false)) = .lit (.bool (inF fx k f))

theorem OwnsF.made (w : World) (fx : Nat → Int) : OwnsF (w.alloc (.map #[] 0)) w.heap.size 0 fx := ⟨.map [], World.ownsMap_made _ _ _ _, fun f => rfl⟩

theorem OwnsF.kept {S : Nat → Prop} {w w' : World} {bm k : Nat} {fx : Nat → Int} (h : OwnsF w bm k fx) (hk : Kept S w w') (hs : ¬ S bm) : OwnsF w' bm k fx := by
  obtain ⟨D, ho, hD⟩ := h
  exact ⟨D, owns_kept ho hk hs, hD⟩

theorem OwnsF.store {w : World} {bm k : Nat} {fx : Nat → Int} (h : OwnsF w bm k fx) (hf : (Lit.int .i64 (fx k)).wf = true) (hk : k < maxLen) :
    ∃ w1, (Instr.mapUpdate 42 (.map (some bm)) (.int .i64 (fx k)) (.bool true)).run Try.prog w = .ok () w1 ∧ OwnsF w1 bm (k + 1) fx ∧ w.mapTurned w1 bm := by
  obtain ⟨D, ho, hD⟩ := h
  obtain ⟨w1, hrun, hown, hturn⟩ := ho.store law3 Try.underlying42 hk (key3 hf) (plainElem_bool Try.underlying4 true)
  refine ⟨w1, hrun, ⟨_, hown, fun f => ?_⟩, hturn⟩
  rw [inF_succ]
  by_cases he : fx k = f
  · rw [he, atKey_put_same ho.isMap (isKey f)]; simp
  · rw [atKey_put_other (litI_ne he), hD]
    have : (fx k == f) = false := by simp [he]
    rw [this]; simp

theorem OwnsF.look {w : World} {bm k : Nat} {fx : Nat → Int} (h : OwnsF w bm k fx) {f : Int} (hf : (Lit.int .i64 f).wf = true) :
    (Instr.lookup 42 (.map (some bm)) (.int .i64 f) false).run Try.prog w = .ok (.bool (inF fx k f)) w := by
  obtain ⟨D, ho, hD⟩ := h
  obtain ⟨v, ps, hrun, hv⟩ := ho.lookup law3 Try.underlying42 (zero4 w) (plainElem_bool (H := Unit) Try.underlying4 false) (key3 hf)
  obtain ⟨c, rfl, hc⟩ := plainElem_bool_inv Try.underlying4 hv
  rw [hD] at hc
  simp only [Prod.mk.injEq] at hc
  rw [litB_inj hc.1]
  exact hrun

end Go.Proofs.Qxb6601307a
