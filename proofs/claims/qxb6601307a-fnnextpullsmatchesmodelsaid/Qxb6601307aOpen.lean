/-
  THE SIX ARGUMENTS THAT CAME IN, opened: what the walks are told of them.
-/
import Derived.Test.Qxb6601307aInp
import Derived.SliceStrings
import Derived.ChangeSlices
import Derived.Deep.Slices
import Derived.ProofKit
set_option linter.unusedVariables false
namespace Go.Proofs.Qxb6601307a
open Go.ChangeShapes Go.WideShapes Go.ChangeAt Go.RowKit Go.Deep

theorem spot_of_cell {w : World} {a : Addr} {v : Value} (h : w.cell? a = some v) : a.spot = none := by
  unfold World.cell? at h
  split at h
  · split at h
    · cases h
    · rename_i hs; simpa using hs
  · cases h

theorem add_off {a : Addr} (ha : a.spot = none) (k : Nat) : a.add k = ⟨a.block, a.off + k, none⟩ := by
  obtain ⟨ab, ao, sp⟩ := a
  cases ha
  show (if k = 0 then (⟨ab, ao, none⟩ : Addr) else ⟨ab, ao + k, none⟩) = ⟨ab, ao + k, none⟩
  by_cases h0 : k = 0
  · rw [if_pos h0, h0]; rfl
  · rw [if_neg h0]

theorem pick {α : Type} [Inhabited α] {m : Nat} {p : Nat → α → Prop} (h : ∀ i, i < m → ∃ a, p i a) : ∃ q : Nat → α, ∀ i, i < m → p i (q i) := by
  have : ∀ i, ∃ a, i < m → p i a := fun i => by
    by_cases hi : i < m
    · obtain ⟨a, ha⟩ := h i hi
      exact ⟨a, fun _ => ha⟩
    · exact ⟨default, fun h => absurd h hi⟩
  exact ⟨fun i => Classical.choose (this i), fun i hi => Classical.choose_spec (this i) hi⟩

section
variable {H : Type} {enc : TypeId × Value → H} {w : World} {base : Nat} {spare : Nat → Bool} {held : Bool} {x : DataW H × List MemPlace} {fuel : Nat}

/-- rows of structs whose fields are cells -/
theorem open_rows {P : Program} {t e : TypeId} {fs : Array Field} {s : Nat} {cs : List Value} (ht : P.underlying t = some (.slice e)) (he : P.underlying e = some (.struct fs)) (ce : P.cellsOf e = s) (hfs : fs.size = s)
    (hoff : ∀ (i : Nat) (f : Field), fs[i]? = some f → f.offset = i ∧ P.cellsOf f.type = 1) (hs : 0 < s) (h : DataW.trod enc P w base spare held fuel t cs = some x) :
    cs = [.slice none 0 0] ∨ ∃ a len cap, cs = [.slice (some a) len cap] ∧ len ≤ cap ∧ (0 < len → a.spot = none) ∧
      ∀ k, k < len → ∃ (V : Nat → Value) (n : Nat), ∀ (i : Nat) (f : Field), fs[i]? = some f → w.cell? (a.add (k * s + i)) = some (V i) ∧ ∃ y, DataW.trod enc P w base spare held n f.type [V i] = some y := by
  rcases open_slice ht h with ⟨h0, _⟩ | ⟨a, len, cap, m, n, D, Pl, rfl, hb, hl, hm, hmm, rfl, hx⟩
  · exact .inl h0
  have hlm : len ≤ m := by rw [hmm]; split <;> omega
  have each : ∀ k, k < len → ∃ (V : Nat → Value) (n : Nat), ∀ (i : Nat) (f : Field), fs[i]? = some f → w.cell? (a.add (k * s + i)) = some (V i) ∧ ∃ y, DataW.trod enc P w base spare held n f.type [V i] = some y := by
    intro k hk
    obtain ⟨cs', h1, h2⟩ := hx k (by omega)
    rw [ce] at h1
    obtain ⟨_, hlen, hcell⟩ := World.cells?_some h1
    obtain ⟨xs, n', _, _, _, hxl, hf⟩ := DataW.trod_struct he h2
    refine ⟨fun i => cs'.getD i (.bool false), n', fun i f hif => ?_⟩
    have hi : i < fs.size := (Array.getElem?_eq_some_iff.1 hif).1
    obtain ⟨ho, hc⟩ := hoff i f hif
    have g := hf i f hif
    have e1 := hcell i (by omega)
    rw [add_add] at e1
    have hi' : i < cs'.length := by omega
    have e2 : cs'.getD i (.bool false) = cs'[i] := by rw [List.getD_eq_getElem?_getD, List.getElem?_eq_getElem hi']; rfl
    rw [ho, hc] at g
    have e3 : (cs'.drop i).take 1 = [cs'[i]] := by
      rw [List.drop_eq_getElem_cons hi']; rfl
    rw [e3, List.getElem?_eq_getElem (show i < xs.length by omega)] at g
    refine ⟨?_, xs[i]'(by omega), ?_⟩
    · show w.cell? _ = some (cs'.getD i (.bool false))
      rw [e2, e1, List.getElem?_eq_getElem hi']
    · show DataW.trod enc P w base spare held n' f.type [cs'.getD i (.bool false)] = _
      rw [e2]
      exact g
  refine .inr ⟨a, len, cap, rfl, hl, fun h0 => ?_, each⟩
  obtain ⟨V, n', hV⟩ := each 0 h0
  obtain ⟨hc, _⟩ := hV 0 (fs[0]'(by omega)) (Array.getElem?_eq_getElem (by omega))
  exact spot_of_cell (by simpa [Addr.add] using hc)

theorem slOk {a : Addr} {len cap : Nat} (hs : 0 < len → a.spot = none) (hl : len ≤ cap) : (⟨some a, len, cap, a.block, a.off⟩ : Sl).Ok :=
  ⟨fun h => by
    have := hs h
    obtain ⟨b, o, sp⟩ := a
    cases this
    rfl, fun h => (by cases h), hl⟩

theorem nilOk : (⟨none, 0, 0, 0, 0⟩ : Sl).Ok := ⟨fun h => absurd h (Nat.lt_irrefl _), fun _ => rfl, Nat.le_refl _⟩

theorem open_ints22 {v : Value} (h : DataW.trod enc Try.prog w base spare held fuel 22 [v] = some x) : ∃ (s : Sl) (xs : Nat → Int), v = .slice s.oa s.len s.cap ∧ IntsAt w s xs := by
  rcases open_ints Try.underlying22 Try.underlying3 (by kernel_rfl) h with ⟨hcs, _⟩ | ⟨a, len, cap, zs, hcs, _, hl, hm, hz, _, hcell, hwf⟩
  · simp only [List.cons.injEq, and_true] at hcs
    exact ⟨⟨none, 0, 0, 0, 0⟩, fun _ => 0, hcs, nilOk, fun k hk => absurd hk (Nat.not_lt_zero _), fun k hk => absurd hk (Nat.not_lt_zero _)⟩
  · simp only [List.cons.injEq, and_true] at hcs
    have hlz : len ≤ zs.length := by rw [hz]; split <;> omega
    have hsp : 0 < len → a.spot = none := fun h0 => spot_of_cell (by simpa [Addr.add] using hcell 0 (by omega))
    refine ⟨⟨some a, len, cap, a.block, a.off⟩, fun k => zs.getD k 0, hcs, slOk hsp hl, fun k hk => ?_, fun k hk => ?_⟩
    · have hk' : k < len := hk
      have : zs.getD k 0 = zs[k]'(by omega) := by rw [List.getD_eq_getElem?_getD, List.getElem?_eq_getElem (by omega)]; rfl
      rw [this]
      exact hwf _ (List.getElem_mem _)
    · have hk' : k < len := hk
      rw [← add_off (hsp (by omega))]
      exact hcell k (by omega)

theorem open_strs43 {v : Value} (h : DataW.trod enc Try.prog w base spare held fuel 43 [v] = some x) : ∃ q : Sl × (Nat → ByteArray), v = .slice q.1.oa q.1.len q.1.cap ∧ StrsAt w q.1 q.2 := by
  rcases open_strings Try.underlying43 Try.underlying9 (by kernel_rfl) h with ⟨hcs, _⟩ | ⟨a, len, cap, zs, hcs, _, hl, hm, hz, _, hcell, hwf⟩
  · simp only [List.cons.injEq, and_true] at hcs
    exact ⟨(⟨none, 0, 0, 0, 0⟩, fun _ => ByteArray.empty), hcs, nilOk, fun k hk => absurd hk (Nat.not_lt_zero _), fun k hk => absurd hk (Nat.not_lt_zero _)⟩
  · simp only [List.cons.injEq, and_true] at hcs
    have hlz : len ≤ zs.length := by rw [hz]; split <;> omega
    have hsp : 0 < len → a.spot = none := fun h0 => spot_of_cell (by simpa [Addr.add] using hcell 0 (by omega))
    refine ⟨(⟨some a, len, cap, a.block, a.off⟩, fun k => zs.getD k ByteArray.empty), hcs, slOk hsp hl, fun k hk => ?_, fun k hk => ?_⟩
    · have hk' : k < len := hk
      show w.cell? ⟨a.block, a.off + k, none⟩ = _
      rw [← add_off (hsp (by omega))]
      exact hcell k (by omega)
    · have hk' : k < len := hk
      have : zs.getD k ByteArray.empty = zs[k]'(by omega) := by rw [List.getD_eq_getElem?_getD, List.getElem?_eq_getElem (by omega)]; rfl
      show (zs.getD k ByteArray.empty).size ≤ maxLen
      rw [this]
      exact hwf _ (List.getElem_mem _)

theorem one_int {t : TypeId} {q : IntKind} {v : Value} {n : Nat} (ht : Try.prog.underlying t = some (.int q)) (h : ∃ y, DataW.trod enc Try.prog w base spare held n t [v] = some y) : ∃ z : Int, v = .int q z ∧ (Lit.int q z).wf = true := by
  obtain ⟨y, hy⟩ := h
  obtain ⟨z, h1, _, h2⟩ := DataW.trod_int ht hy
  simp only [List.cons.injEq, and_true] at h1
  exact ⟨z, h1, h2⟩

theorem one_str {v : Value} {n : Nat} (h : ∃ y, DataW.trod enc Try.prog w base spare held n 9 [v] = some y) : ∃ s : ByteArray, v = .string s ∧ s.size ≤ maxLen := by
  obtain ⟨y, hy⟩ := h
  obtain ⟨z, h1, _, h2⟩ := DataW.trod_string Try.underlying9 hy
  simp only [List.cons.injEq, and_true] at h1
  exact ⟨z, h1, h2⟩

theorem one_strs {v : Value} {n : Nat} (h : ∃ y, DataW.trod enc Try.prog w base spare held n 43 [v] = some y) : ∃ q : Sl × (Nat → ByteArray), v = .slice q.1.oa q.1.len q.1.cap ∧ StrsAt w q.1 q.2 := by
  obtain ⟨y, hy⟩ := h
  exact open_strs43 hy

theorem off76 : ∀ (i : Nat) (f : Field), (#[{ name := "ID", type := 3, offset := 0, embedded := false, tag := "", pkgPath := "", byteOffset := 0 }, { name := "Object", type := 9, offset := 1, embedded := false, tag := "", pkgPath := "", byteOffset := 8 }, { name := "NeedEpoch", type := 74, offset := 2, embedded := false, tag := "", pkgPath := "", byteOffset := 24 }, { name := "NeedN", type := 74, offset := 3, embedded := false, tag := "", pkgPath := "", byteOffset := 32 }, { name := "HaveEpoch", type := 74, offset := 4, embedded := false, tag := "", pkgPath := "", byteOffset := 40 }, { name := "HaveN", type := 74, offset := 5, embedded := false, tag := "", pkgPath := "", byteOffset := 48 }] : Array Field)[i]? = some f → f.offset = i ∧ Try.prog.cellsOf f.type = 1
  | 0, f, h => by cases h; exact ⟨rfl, by kernel_rfl⟩
  | 1, f, h => by cases h; exact ⟨rfl, by kernel_rfl⟩
  | 2, f, h => by cases h; exact ⟨rfl, by kernel_rfl⟩
  | 3, f, h => by cases h; exact ⟨rfl, by kernel_rfl⟩
  | 4, f, h => by cases h; exact ⟨rfl, by kernel_rfl⟩
  | 5, f, h => by cases h; exact ⟨rfl, by kernel_rfl⟩
  | i + 6, f, h => by simp at h

theorem off41 : ∀ (i : Nat) (f : Field), (#[{ name := "Object", type := 9, offset := 0, embedded := false, tag := "", pkgPath := "", byteOffset := 0 }, { name := "From", type := 3, offset := 1, embedded := false, tag := "", pkgPath := "", byteOffset := 16 }] : Array Field)[i]? = some f → f.offset = i ∧ Try.prog.cellsOf f.type = 1
  | 0, f, h => by cases h; exact ⟨rfl, by kernel_rfl⟩
  | 1, f, h => by cases h; exact ⟨rfl, by kernel_rfl⟩
  | i + 2, f, h => by simp at h

theorem off45 : ∀ (i : Nat) (f : Field), (#[{ name := "From", type := 3, offset := 0, embedded := false, tag := "", pkgPath := "", byteOffset := 0 }, { name := "Queue", type := 43, offset := 1, embedded := false, tag := "", pkgPath := "", byteOffset := 8 }, { name := "Asked", type := 43, offset := 2, embedded := false, tag := "", pkgPath := "", byteOffset := 32 }] : Array Field)[i]? = some f → f.offset = i ∧ Try.prog.cellsOf f.type = 1
  | 0, f, h => by cases h; exact ⟨rfl, by kernel_rfl⟩
  | 1, f, h => by cases h; exact ⟨rfl, by kernel_rfl⟩
  | 2, f, h => by cases h; exact ⟨rfl, by kernel_rfl⟩
  | i + 3, f, h => by simp at h

theorem off73 : ∀ (i : Nat) (f : Field), (#[{ name := "ID", type := 3, offset := 0, embedded := false, tag := "", pkgPath := "", byteOffset := 0 }, { name := "Object", type := 9, offset := 1, embedded := false, tag := "", pkgPath := "", byteOffset := 8 }] : Array Field)[i]? = some f → f.offset = i ∧ Try.prog.cellsOf f.type = 1
  | 0, f, h => by cases h; exact ⟨rfl, by kernel_rfl⟩
  | 1, f, h => by cases h; exact ⟨rfl, by kernel_rfl⟩
  | i + 2, f, h => by simp at h

theorem at_row {a : Addr} {k s i : Nat} {v : Value} (ha : a.spot = none) (h : w.cell? (a.add (k * s + i)) = some v) : w.cell? ⟨a.block, a.off + k * s + i, none⟩ = some v := by
  rw [add_off ha, ← Nat.add_assoc] at h
  exact h

theorem open_miss {v : Value} (h : DataW.trod enc Try.prog w base spare held fuel 23 [v] = some x) : ∃ (s : Sl) (ms : Nat → Miss), v = .slice s.oa s.len s.cap ∧ MissAt w s ms := by
  rcases open_rows Try.underlying23 Try.underlying76 (s := 6) (by kernel_rfl) rfl off76 (by omega) h with hcs | ⟨a, len, cap, hcs, hl, hsp, each⟩
  · simp only [List.cons.injEq, and_true] at hcs
    exact ⟨⟨none, 0, 0, 0, 0⟩, fun _ => ⟨0, ByteArray.empty, 0, 0, 0, 0⟩, hcs, nilOk, fun k hk => absurd hk (Nat.not_lt_zero _), fun k hk => absurd hk (Nat.not_lt_zero _), fun k hk => absurd hk (Nat.not_lt_zero _), fun k hk => absurd hk (Nat.not_lt_zero _), fun k hk => absurd hk (Nat.not_lt_zero _), fun k hk => absurd hk (Nat.not_lt_zero _), fun k hk => absurd hk (Nat.not_lt_zero _), fun k hk => absurd hk (Nat.not_lt_zero _)⟩
  · simp only [List.cons.injEq, and_true] at hcs
    have : Inhabited Miss := ⟨⟨0, ByteArray.empty, 0, 0, 0, 0⟩⟩
    have e2 : ∀ k, k < len → ∃ m : Miss, (Lit.int .i64 m.id).wf = true ∧ w.cell? ⟨a.block, a.off + k * 6, none⟩ = some (.int .i64 m.id) ∧ w.cell? ⟨a.block, a.off + k * 6 + 1, none⟩ = some (.string m.obj) ∧ w.cell? ⟨a.block, a.off + k * 6 + 2, none⟩ = some (.int .u64 m.a) ∧ w.cell? ⟨a.block, a.off + k * 6 + 3, none⟩ = some (.int .u64 m.b) ∧ w.cell? ⟨a.block, a.off + k * 6 + 4, none⟩ = some (.int .u64 m.c) ∧ w.cell? ⟨a.block, a.off + k * 6 + 5, none⟩ = some (.int .u64 m.d) ∧ m.obj.size ≤ maxLen := by
      intro k hk
      have hs := hsp (by omega)
      obtain ⟨V, n, hV⟩ := each k hk
      obtain ⟨c0, t0⟩ := hV 0 _ rfl
      obtain ⟨c1, t1⟩ := hV 1 _ rfl
      obtain ⟨c2, t2⟩ := hV 2 _ rfl
      obtain ⟨c3, t3⟩ := hV 3 _ rfl
      obtain ⟨c4, t4⟩ := hV 4 _ rfl
      obtain ⟨c5, t5⟩ := hV 5 _ rfl
      obtain ⟨z0, q0, w0⟩ := one_int Try.underlying3 t0
      obtain ⟨z1, q1, w1⟩ := one_str t1
      obtain ⟨z2, q2, _⟩ := one_int Try.underlying74 t2
      obtain ⟨z3, q3, _⟩ := one_int Try.underlying74 t3
      obtain ⟨z4, q4, _⟩ := one_int Try.underlying74 t4
      obtain ⟨z5, q5, _⟩ := one_int Try.underlying74 t5
      rw [q0] at c0
      rw [q1] at c1
      rw [q2] at c2
      rw [q3] at c3
      rw [q4] at c4
      rw [q5] at c5
      exact ⟨⟨z0, z1, z2, z3, z4, z5⟩, w0, at_row hs c0, at_row hs c1, at_row hs c2, at_row hs c3, at_row hs c4, at_row hs c5, w1⟩
    obtain ⟨ms, hms⟩ := pick e2
    exact ⟨⟨some a, len, cap, a.block, a.off⟩, ms, hcs, slOk hsp hl, fun k hk => (hms k hk).1, fun k hk => (hms k hk).2.1, fun k hk => (hms k hk).2.2.1, fun k hk => (hms k hk).2.2.2.1, fun k hk => (hms k hk).2.2.2.2.1, fun k hk => (hms k hk).2.2.2.2.2.1, fun k hk => (hms k hk).2.2.2.2.2.2.1, fun k hk => (hms k hk).2.2.2.2.2.2.2⟩

theorem open_srcs {v : Value} (h : DataW.trod enc Try.prog w base spare held fuel 24 [v] = some x) : ∃ (s : Sl) (ms : Nat → Src), v = .slice s.oa s.len s.cap ∧ SrcAt w s ms := by
  rcases open_rows Try.underlying24 Try.underlying41 (s := 2) (by kernel_rfl) rfl off41 (by omega) h with hcs | ⟨a, len, cap, hcs, hl, hsp, each⟩
  · simp only [List.cons.injEq, and_true] at hcs
    exact ⟨⟨none, 0, 0, 0, 0⟩, fun _ => ⟨ByteArray.empty, 0⟩, hcs, nilOk, fun k hk => absurd hk (Nat.not_lt_zero _), fun k hk => absurd hk (Nat.not_lt_zero _), fun k hk => absurd hk (Nat.not_lt_zero _), fun k hk => absurd hk (Nat.not_lt_zero _)⟩
  · simp only [List.cons.injEq, and_true] at hcs
    have : Inhabited Src := ⟨⟨ByteArray.empty, 0⟩⟩
    have e2 : ∀ k, k < len → ∃ m : Src, (Lit.int .i64 m.frm).wf = true ∧ w.cell? ⟨a.block, a.off + k * 2, none⟩ = some (.string m.obj) ∧ w.cell? ⟨a.block, a.off + k * 2 + 1, none⟩ = some (.int .i64 m.frm) ∧ m.obj.size ≤ maxLen := by
      intro k hk
      have hs := hsp (by omega)
      obtain ⟨V, n, hV⟩ := each k hk
      obtain ⟨c0, t0⟩ := hV 0 _ rfl
      obtain ⟨c1, t1⟩ := hV 1 _ rfl
      obtain ⟨z0, q0, w0⟩ := one_str t0
      obtain ⟨z1, q1, w1⟩ := one_int Try.underlying3 t1
      rw [q0] at c0
      rw [q1] at c1
      exact ⟨⟨z0, z1⟩, w1, at_row hs c0, at_row hs c1, w0⟩
    obtain ⟨ms, hms⟩ := pick e2
    exact ⟨⟨some a, len, cap, a.block, a.off⟩, ms, hcs, slOk hsp hl, fun k hk => (hms k hk).1, fun k hk => (hms k hk).2.1, fun k hk => (hms k hk).2.2.1, fun k hk => (hms k hk).2.2.2⟩

theorem open_uns {v : Value} (h : DataW.trod enc Try.prog w base spare held fuel 26 [v] = some x) : ∃ (s : Sl) (ms : Nat → Uns), v = .slice s.oa s.len s.cap ∧ UnsAt w s ms := by
  rcases open_rows Try.underlying26 Try.underlying73 (s := 2) (by kernel_rfl) rfl off73 (by omega) h with hcs | ⟨a, len, cap, hcs, hl, hsp, each⟩
  · simp only [List.cons.injEq, and_true] at hcs
    exact ⟨⟨none, 0, 0, 0, 0⟩, fun _ => ⟨0, ByteArray.empty⟩, hcs, nilOk, fun k hk => absurd hk (Nat.not_lt_zero _), fun k hk => absurd hk (Nat.not_lt_zero _), fun k hk => absurd hk (Nat.not_lt_zero _), fun k hk => absurd hk (Nat.not_lt_zero _)⟩
  · simp only [List.cons.injEq, and_true] at hcs
    have : Inhabited Uns := ⟨⟨0, ByteArray.empty⟩⟩
    have e2 : ∀ k, k < len → ∃ m : Uns, (Lit.int .i64 m.id).wf = true ∧ w.cell? ⟨a.block, a.off + k * 2, none⟩ = some (.int .i64 m.id) ∧ w.cell? ⟨a.block, a.off + k * 2 + 1, none⟩ = some (.string m.obj) ∧ m.obj.size ≤ maxLen := by
      intro k hk
      have hs := hsp (by omega)
      obtain ⟨V, n, hV⟩ := each k hk
      obtain ⟨c0, t0⟩ := hV 0 _ rfl
      obtain ⟨c1, t1⟩ := hV 1 _ rfl
      obtain ⟨z0, q0, w0⟩ := one_int Try.underlying3 t0
      obtain ⟨z1, q1, w1⟩ := one_str t1
      rw [q0] at c0
      rw [q1] at c1
      exact ⟨⟨z0, z1⟩, w0, at_row hs c0, at_row hs c1, w1⟩
    obtain ⟨ms, hms⟩ := pick e2
    exact ⟨⟨some a, len, cap, a.block, a.off⟩, ms, hcs, slOk hsp hl, fun k hk => (hms k hk).1, fun k hk => (hms k hk).2.1, fun k hk => (hms k hk).2.2.1, fun k hk => (hms k hk).2.2.2⟩

theorem open_pulls {v : Value} (h : DataW.trod enc Try.prog w base spare held fuel 25 [v] = some x) : ∃ (s : Sl) (ps : Nat → PullR), v = .slice s.oa s.len s.cap ∧ PullAt w s ps := by
  rcases open_rows Try.underlying25 Try.underlying45 (s := 3) (by kernel_rfl) rfl off45 (by omega) h with hcs | ⟨a, len, cap, hcs, hl, hsp, each⟩
  · simp only [List.cons.injEq, and_true] at hcs
    exact ⟨⟨none, 0, 0, 0, 0⟩, fun _ => ⟨0, ⟨none, 0, 0, 0, 0⟩, fun _ => ByteArray.empty, ⟨none, 0, 0, 0, 0⟩, fun _ => ByteArray.empty⟩, hcs, nilOk, fun k hk => absurd hk (Nat.not_lt_zero _), fun k hk => absurd hk (Nat.not_lt_zero _), fun k hk => absurd hk (Nat.not_lt_zero _), fun k hk => absurd hk (Nat.not_lt_zero _), fun k hk => absurd hk (Nat.not_lt_zero _), fun k hk => absurd hk (Nat.not_lt_zero _)⟩
  · simp only [List.cons.injEq, and_true] at hcs
    have : Inhabited PullR := ⟨⟨0, ⟨none, 0, 0, 0, 0⟩, fun _ => ByteArray.empty, ⟨none, 0, 0, 0, 0⟩, fun _ => ByteArray.empty⟩⟩
    have e2 : ∀ k, k < len → ∃ p : PullR, (Lit.int .i64 p.frm).wf = true ∧ w.cell? ⟨a.block, a.off + k * 3, none⟩ = some (.int .i64 p.frm) ∧ w.cell? ⟨a.block, a.off + k * 3 + 1, none⟩ = some (.slice p.q.oa p.q.len p.q.cap) ∧ w.cell? ⟨a.block, a.off + k * 3 + 2, none⟩ = some (.slice p.a.oa p.a.len p.a.cap) ∧ StrsAt w p.q p.qs ∧ StrsAt w p.a p.an := by
      intro k hk
      have hs := hsp (by omega)
      obtain ⟨V, n, hV⟩ := each k hk
      obtain ⟨c0, t0⟩ := hV 0 _ rfl
      obtain ⟨c1, t1⟩ := hV 1 _ rfl
      obtain ⟨c2, t2⟩ := hV 2 _ rfl
      obtain ⟨z0, q0, w0⟩ := one_int Try.underlying3 t0
      obtain ⟨⟨s1, f1⟩, q1, w1⟩ := one_strs t1
      obtain ⟨⟨s2, f2⟩, q2, w2⟩ := one_strs t2
      rw [q0] at c0
      rw [q1] at c1
      rw [q2] at c2
      exact ⟨⟨z0, s1, f1, s2, f2⟩, w0, at_row hs c0, at_row hs c1, at_row hs c2, w1, w2⟩
    obtain ⟨ps, hps⟩ := pick e2
    exact ⟨⟨some a, len, cap, a.block, a.off⟩, ps, hcs, slOk hsp hl, fun k hk => (hps k hk).1, fun k hk => (hps k hk).2.1, fun k hk => (hps k hk).2.2.1, fun k hk => (hps k hk).2.2.2.1, fun k hk => (hps k hk).2.2.2.2.1, fun k hk => (hps k hk).2.2.2.2.2⟩

end
end Go.Proofs.Qxb6601307a
