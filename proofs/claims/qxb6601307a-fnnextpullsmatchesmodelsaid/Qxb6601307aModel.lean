/-
  THE PLAIN LAW: what NextPulls takes off a queue, and what the filter-then-take model says. No Go here.
-/
import Derived.Test.Qxb6601307aSet
set_option linter.unusedVariables false
namespace Go.Proofs.Qxb6601307a
open Go.RowKit Go.Maps

/-- the model's test of position i: not seen before, in sources, not asked -/
def selAt (src : ByteArray → Bool) (p : PullR) (i : Nat) : Bool := (!inFew p.qs i (p.qs i) && src (p.qs i)) && !inFew p.an p.a.len (p.qs i)

/-- the positions below c that pass it -/
def selL (src : ByteArray → Bool) (p : PullR) (c : Nat) : List Nat := (List.range c).filter (selAt src p)

theorem selL_zero (src : ByteArray → Bool) (p : PullR) : selL src p 0 = [] := rfl

theorem selL_succ (src : ByteArray → Bool) (p : PullR) (c : Nat) : selL src p (c + 1) = selL src p c ++ (if selAt src p c then [c] else []) := by
  unfold selL
  rw [List.range_succ, List.filter_append]
  congr 1
  simp only [List.filter_cons, List.filter_nil]

theorem selL_yes {src : ByteArray → Bool} {p : PullR} {c : Nat} (h : selAt src p c = true) : selL src p (c + 1) = selL src p c ++ [c] := by rw [selL_succ, if_pos h]
theorem selL_no {src : ByteArray → Bool} {p : PullR} {c : Nat} (h : selAt src p c = false) : selL src p (c + 1) = selL src p c := by rw [selL_succ, h]; simp

theorem selL_le (src : ByteArray → Bool) (p : PullR) (c : Nat) : (selL src p c).length ≤ c := by
  have := List.length_filter_le (selAt src p) (List.range c)
  rw [List.length_range] at this
  exact this

theorem selL_mem {src : ByteArray → Bool} {p : PullR} {c i : Nat} : i ∈ selL src p c ↔ i < c ∧ selAt src p i = true := by
  unfold selL
  rw [List.mem_filter, List.mem_range]

theorem selL_get_lt {src : ByteArray → Bool} {p : PullR} {c t : Nat} (h : t < (selL src p c).length) : (selL src p c)[t] < c := (selL_mem.1 (List.getElem_mem h)).1

theorem selL_prefix (src : ByteArray → Bool) (p : PullR) {c n : Nat} (h : c ≤ n) : ∃ r, selL src p n = selL src p c ++ r := by
  obtain ⟨d, rfl⟩ := Nat.exists_eq_add_of_le h
  induction d with
  | zero => exact ⟨[], by simp⟩
  | succ d ih =>
    obtain ⟨r, hr⟩ := ih (by omega)
    rw [show c + (d + 1) = (c + d) + 1 by omega, selL_succ, hr]
    exact ⟨_, List.append_assoc _ _ _⟩

/-- the names asked for behind c positions -/
def askL (src : ByteArray → Bool) (p : PullR) (c : Nat) : List ByteArray := fewL p.an p.a.len ++ (selL src p c).map p.qs

theorem askL_zero (src : ByteArray → Bool) (p : PullR) : askL src p 0 = fewL p.an p.a.len := by unfold askL; rw [selL_zero]; simp
theorem askL_yes {src : ByteArray → Bool} {p : PullR} {c : Nat} (h : selAt src p c = true) : askL src p (c + 1) = askL src p c ++ [p.qs c] := by
  unfold askL; rw [selL_yes h]; simp
theorem askL_no {src : ByteArray → Bool} {p : PullR} {c : Nat} (h : selAt src p c = false) : askL src p (c + 1) = askL src p c := by
  unfold askL; rw [selL_no h]

theorem first_hit (few : Nat → ByteArray) (x : ByteArray) : ∀ c, inFew few c x = true → ∃ k, k < c ∧ ((few k).toList == x.toList) = true ∧ inFew few k x = false
  | 0, h => by simp [inFew] at h
  | c + 1, h => by
    cases hc : inFew few c x with
    | true =>
      obtain ⟨k, h1, h2, h3⟩ := first_hit few x c hc
      exact ⟨k, by omega, h2, h3⟩
    | false =>
      rw [inFew_succ, hc, Bool.false_or] at h
      exact ⟨c, by omega, h, hc⟩

theorem inL_append (A B : List ByteArray) (x : ByteArray) : inL (A ++ B) x = (inL A x || inL B x) := by
  unfold inL; rw [List.any_append]

/-- what NextPulls asks at position c is what the model asks -/
theorem sel_step {src : ByteArray → Bool} (hsrc : ∀ x y : ByteArray, (x.toList == y.toList) = true → src x = src y) (p : PullR) (c : Nat) :
    (src (p.qs c) && !inL (askL src p c) (p.qs c)) = selAt src p c := by
  unfold selAt askL
  rw [inL_append, inL_fewL]
  cases h1 : src (p.qs c) with
  | false => simp
  | true =>
    cases h2 : inFew p.an p.a.len (p.qs c) with
    | true => simp
    | false =>
      have e : inL ((selL src p c).map p.qs) (p.qs c) = inFew p.qs c (p.qs c) := by
        cases h3 : inFew p.qs c (p.qs c) with
        | true =>
          obtain ⟨k, hk, hk2, hk3⟩ := first_hit p.qs (p.qs c) c h3
          unfold inL
          rw [List.any_eq_true]
          refine ⟨p.qs k, List.mem_map.2 ⟨k, selL_mem.2 ⟨hk, ?_⟩, rfl⟩, hk2⟩
          unfold selAt
          rw [inFew_same _ _ hk2, hk3, hsrc _ _ hk2, h1, inFew_same _ _ hk2, h2]
          rfl
        | false =>
          rw [← Bool.not_eq_true] at h3 ⊢
          intro h4
          apply h3
          unfold inL at h4
          rw [List.any_eq_true] at h4
          obtain ⟨y, hy, hy2⟩ := h4
          obtain ⟨k, hk, rfl⟩ := List.mem_map.1 hy
          exact inFew_hit (selL_mem.1 hk).1 hy2
      rw [e]
      simp

/-- how many are asked -/
theorem sz_ask {src : ByteArray → Bool} (hsrc : ∀ x y : ByteArray, (x.toList == y.toList) = true → src x = src y) (p : PullR) : ∀ c, szL (askL src p c) = szL (fewL p.an p.a.len) + (selL src p c).length
  | 0 => by rw [askL_zero, selL_zero]; rfl
  | c + 1 => by
    have ih := sz_ask hsrc p c
    cases h : selAt src p c with
    | false => rw [askL_no h, selL_no h]; exact ih
    | true =>
      have hn : inL (askL src p c) (p.qs c) = false := by
        have := sel_step hsrc p c
        rw [h] at this
        cases hh : inL (askL src p c) (p.qs c) with
        | false => rfl
        | true => rw [hh] at this; simp at this
      rw [askL_yes h, selL_yes h, szL_snoc, hn, ih]
      simp
      omega

/-- where NextPulls stops -/
structure Stop (src : ByteArray → Bool) (p : PullR) (c : Nat) : Prop where
  le : c ≤ p.q.len
  bef : ∀ c', c' < c → szL (fewL p.an p.a.len) + (selL src p c').length < 64
  fin : c = p.q.len ∨ 64 ≤ szL (fewL p.an p.a.len) + (selL src p c).length

theorem Stop.most {src : ByteArray → Bool} {p : PullR} {c : Nat} (h : Stop src p c) : (selL src p c).length ≤ 64 - szL (fewL p.an p.a.len) := by
  cases c with
  | zero => rw [selL_zero]; exact Nat.zero_le _
  | succ c =>
    have := h.bef c (by omega)
    rw [selL_succ]
    have e : (selL src p c ++ (if selAt src p c then [c] else [])).length ≤ (selL src p c).length + 1 := by
      rw [List.length_append]
      split <;> simp
    omega

theorem Stop.none {src : ByteArray → Bool} {p : PullR} {c : Nat} (h : Stop src p c) (hz : 64 ≤ szL (fewL p.an p.a.len)) : c = 0 := by
  cases c with
  | zero => rfl
  | succ c => have := h.bef 0 (by omega); omega

theorem Stop.all {src : ByteArray → Bool} {p : PullR} {c : Nat} (h : Stop src p c) (hz : (selL src p p.q.len).length + szL (fewL p.an p.a.len) < 64) : c = p.q.len := by
  rcases h.fin with h1 | h1
  · exact h1
  · obtain ⟨r, hr⟩ := selL_prefix src p h.le
    rw [hr, List.length_append] at hz
    omega

theorem Stop.take {src : ByteArray → Bool} {p : PullR} {c : Nat} (h : Stop src p c) : (selL src p c).length = min (selL src p p.q.len).length (64 - szL (fewL p.an p.a.len)) := by
  have h1 := h.most
  obtain ⟨r, hr⟩ := selL_prefix src p h.le
  have h2 : (selL src p p.q.len).length = (selL src p c).length + r.length := by rw [hr, List.length_append]
  rcases h.fin with h3 | h3
  · rw [← h3] at h2 ⊢
    omega
  · omega

theorem Stop.get {src : ByteArray → Bool} {p : PullR} {c : Nat} (h : Stop src p c) {t : Nat} (ht : t < (selL src p c).length) : (selL src p p.q.len)[t]? = some ((selL src p c)[t]) := by
  obtain ⟨r, hr⟩ := selL_prefix src p h.le
  rw [hr, List.getElem?_append_left ht, List.getElem?_eq_getElem ht]

theorem Stop.last {src : ByteArray → Bool} {p : PullR} {c : Nat} (h : Stop src p c) (hr : 0 < 64 - szL (fewL p.an p.a.len)) (hn : 64 - szL (fewL p.an p.a.len) ≤ (selL src p p.q.len).length) :
    0 < c ∧ (selL src p p.q.len)[64 - szL (fewL p.an p.a.len) - 1]? = some (c - 1) := by
  have ht := h.take
  cases c with
  | zero => rw [selL_zero] at ht; simp at ht; omega
  | succ c =>
    have hb := h.bef c (by omega)
    have hs : selAt src p c = true := by
      cases hs : selAt src p c with
      | true => rfl
      | false => rw [selL_no hs] at ht; omega
    refine ⟨by omega, ?_⟩
    have hl : (selL src p (c + 1)).length = (selL src p c).length + 1 := by rw [selL_yes hs]; simp
    have e := h.get (t := 64 - szL (fewL p.an p.a.len) - 1) (by omega)
    rw [e]
    congr 1
    have : (selL src p (c + 1))[64 - szL (fewL p.an p.a.len) - 1]? = some c := by
      rw [selL_yes hs, List.getElem?_append_right (by omega), show 64 - szL (fewL p.an p.a.len) - 1 - (selL src p c).length = 0 by omega]
      rfl
    rw [List.getElem?_eq_getElem (by omega)] at this
    exact Option.some.inj this

/-! ### The transfers -/

/-- of row p, behind c positions, for daemon f -/
def outRow (src : ByteArray → Bool) (p : PullR) (c : Nat) (f : Int) : List (ByteArray × Int) := (selL src p c).map fun t => (p.qs t, f)

/-- of the first k daemons -/
def outL (src : ByteArray → Bool) (ps : Nat → PullR) (jof : Nat → Nat) (fx : Nat → Int) (qc : Nat → Nat) (k : Nat) : List (ByteArray × Int) := (List.range k).flatMap fun i => outRow src (ps (jof i)) (qc (jof i)) (fx i)

theorem outL_succ (src : ByteArray → Bool) (ps : Nat → PullR) (jof : Nat → Nat) (fx : Nat → Int) (qc : Nat → Nat) (k : Nat) : outL src ps jof fx qc (k + 1) = outL src ps jof fx qc k ++ outRow src (ps (jof k)) (qc (jof k)) (fx k) := by
  unfold outL
  rw [List.range_succ, List.flatMap_append]
  simp

theorem outL_congr (src : ByteArray → Bool) (ps : Nat → PullR) (jof : Nat → Nat) (fx : Nat → Int) {qc qc' : Nat → Nat} : ∀ (k : Nat), (∀ i, i < k → qc (jof i) = qc' (jof i)) → outL src ps jof fx qc k = outL src ps jof fx qc' k
  | 0, _ => rfl
  | k + 1, h => by rw [outL_succ, outL_succ, outL_congr src ps jof fx k (fun i hi => h i (by omega)), h k (by omega)]

theorem outRow_len (src : ByteArray → Bool) (p : PullR) (c : Nat) (f : Int) : (outRow src p c f).length = (selL src p c).length := by unfold outRow; rw [List.length_map]

theorem outL_le (src : ByteArray → Bool) (ps : Nat → PullR) (jof : Nat → Nat) (fx : Nat → Int) (qc : Nat → Nat) (M : Nat) : ∀ (k : Nat), (∀ i, i < k → qc (jof i) ≤ M) → (outL src ps jof fx qc k).length ≤ k * M
  | 0, _ => by simp [outL]
  | k + 1, h => by
    have ih := outL_le src ps jof fx qc M k (fun i hi => h i (by omega))
    have h1 := h k (by omega)
    have h2 := selL_le src (ps (jof k)) (qc (jof k))
    rw [outL_succ, List.length_append, outRow_len, Nat.succ_mul]
    omega

/-- its cells -/
def outCells (m0 : Int) (l : List (ByteArray × Int)) : List Value := l.flatMap fun x => [.string x.1, .int .i64 x.2, .int .i64 m0]

theorem outCells_len (m0 : Int) : ∀ (l : List (ByteArray × Int)), (outCells m0 l).length = l.length * 3
  | [] => rfl
  | a :: l => by
    have := outCells_len m0 l
    unfold outCells at this ⊢
    rw [List.flatMap_cons, List.length_append, this]
    simp
    omega

theorem outCells_snoc (m0 : Int) (l : List (ByteArray × Int)) (x : ByteArray × Int) : outCells m0 (l ++ [x]) = outCells m0 l ++ [.string x.1, .int .i64 x.2, .int .i64 m0] := by
  unfold outCells; rw [List.flatMap_append]; simp

theorem outCells_get (m0 : Int) : ∀ (l : List (ByteArray × Int)) (t : Nat) (x : ByteArray × Int), l[t]? = some x → (outCells m0 l)[t * 3]? = some (.string x.1) ∧ (outCells m0 l)[t * 3 + 1]? = some (.int .i64 x.2) ∧ (outCells m0 l)[t * 3 + 2]? = some (.int .i64 m0)
  | [], t, x, h => by simp at h
  | a :: l, 0, x, h => by
    simp at h
    subst h
    exact ⟨rfl, rfl, rfl⟩
  | a :: l, t + 1, x, h => by
    have ih := outCells_get m0 l t x (by simpa using h)
    have e : outCells m0 (a :: l) = [.string a.1, .int .i64 a.2, .int .i64 m0] ++ outCells m0 l := rfl
    rw [e, List.getElem?_append_right (by simp; omega), List.getElem?_append_right (by simp; omega), List.getElem?_append_right (by simp; omega)]
    simp only [List.length_cons, List.length_nil]
    rw [show (t + 1) * 3 - (0 + 1 + 1 + 1) = t * 3 by omega, show (t + 1) * 3 + 1 - (0 + 1 + 1 + 1) = t * 3 + 1 by omega, show (t + 1) * 3 + 2 - (0 + 1 + 1 + 1) = t * 3 + 2 by omega]
    exact ih

end Go.Proofs.Qxb6601307a
