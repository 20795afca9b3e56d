/-
  PLAIN LAWS on how far a quoted string reaches: lists of bytes alone, no Go.
-/
namespace Go.Proofs.Qxb6602432a.Se

/-- do the first 'w' bytes all stand, each the quote 'q'? -/
def pre (q : UInt8) (w : Nat) (l : List UInt8) : Bool := decide (w ≤ l.length) && (l.take w).all (· == q)

/-- how many quotes, at most 'k', open the list -/
def ext (q : UInt8) : Nat → List UInt8 → Nat
  | 0, _ => 0
  | _ + 1, [] => 0
  | k + 1, c :: t => if c = q then 1 + ext q k t else 0

/-- how far the string's rest reaches; the flag: is the next byte skipped? -/
def scan (q : UInt8) (w : Nat) : Bool → List UInt8 → Nat
  | _, [] => 0
  | b, c :: t =>
    if (!b && pre q w (c :: t)) = true then (if w = 3 then 3 + ext q 2 (t.drop 2) else w)
    else 1 + scan q w (!b && q == 34 && c == 92) t

/-- how far the string reaches whose opening quote stands at the list's head -/
def se : List UInt8 → Nat
  | [] => 0
  | q :: t => if pre q 3 (q :: t) = true then 3 + scan q 3 false (t.drop 2) else 1 + scan q 1 false t

theorem pre_iff (q : UInt8) (w : Nat) (l : List UInt8) : pre q w l = true ↔ ∀ k, k < w → l[k]? = some q := by
  unfold pre
  rw [Bool.and_eq_true, decide_eq_true_iff, List.all_eq_true]
  constructor
  · rintro ⟨hw, ha⟩ k hk
    have h := ha (l[k]'(by omega)) (by rw [List.mem_take_iff_getElem]; exact ⟨k, by omega, rfl⟩)
    rw [List.getElem?_eq_getElem (by omega)]
    simpa using h
  · intro h
    have hw : w ≤ l.length := by
      rcases Nat.eq_zero_or_pos w with h0 | h0
      · omega
      · have := h (w - 1) (by omega)
        have := (List.getElem?_eq_some_iff.1 this).1
        omega
    refine ⟨hw, ?_⟩
    intro x hx
    rw [List.mem_take_iff_getElem] at hx
    obtain ⟨k, hk, rfl⟩ := hx
    have := h k (by omega)
    rw [List.getElem?_eq_getElem (by omega)] at this
    simpa using this

theorem pre_len {q : UInt8} {w : Nat} {l : List UInt8} (h : pre q w l = true) : w ≤ l.length := by
  unfold pre at h
  rw [Bool.and_eq_true, decide_eq_true_iff] at h
  exact h.1

theorem pre_one (q c : UInt8) (t : List UInt8) : pre q 1 (c :: t) = (c == q) := by
  simp [pre]

theorem ext_le (q : UInt8) : ∀ (k : Nat) (l : List UInt8), ext q k l ≤ l.length ∧ ext q k l ≤ k
  | 0, _ => by simp [ext]
  | _ + 1, [] => by simp [ext]
  | k + 1, c :: t => by
    have := ext_le q k t
    unfold ext
    split <;> simp <;> omega

theorem ext_all (q : UInt8) : ∀ (k : Nat) (l : List UInt8) (j : Nat), j < ext q k l → l[j]? = some q
  | 0, _, j, h => by simp [ext] at h
  | _ + 1, [], j, h => by simp [ext] at h
  | k + 1, c :: t, j, h => by
    unfold ext at h
    split at h
    · rename_i hc
      cases j with
      | zero => simp [hc]
      | succ j => simp; exact ext_all q k t j (by omega)
    · omega

theorem ext_cut (q : UInt8) : ∀ (k : Nat) (l : List UInt8), ext q k (l.take (ext q k l)) = ext q k l
  | 0, _ => by simp [ext]
  | _ + 1, [] => by simp [ext]
  | k + 1, c :: t => by
    have ih := ext_cut q k t
    by_cases hc : c = q
    · have e : ext q (k + 1) (c :: t) = 1 + ext q k t := by simp [ext, hc]
      rw [e, Nat.add_comm 1, List.take_succ_cons]
      simp [ext, hc, ih]; omega
    · have e : ext q (k + 1) (c :: t) = 0 := by simp [ext, hc]
      rw [e]; simp [ext]

theorem scan_le (q : UInt8) (w : Nat) (hw : w = 1 ∨ w = 3) : ∀ (l : List UInt8) (b : Bool), scan q w b l ≤ l.length
  | [], b => by simp [scan]
  | c :: t, b => by
    have ih := scan_le q w hw t (!b && q == 34 && c == 92)
    unfold scan
    split
    · rename_i h
      rw [Bool.and_eq_true] at h
      have hl := pre_len h.2
      have he := (ext_le q 2 (t.drop 2)).1
      simp at hl he ⊢
      rcases hw with rfl | rfl
      · simp
      · simp; omega
    · simp; omega

/-- where the string closes ahead of the text's end, its last 'w' bytes are its quote -/
theorem scan_close (q : UInt8) (w : Nat) (hw : w = 1 ∨ w = 3) : ∀ (l : List UInt8) (b : Bool), scan q w b l < l.length →
    w ≤ scan q w b l ∧ ∀ k, scan q w b l - w ≤ k → k < scan q w b l → l[k]? = some q
  | [], b, h => by simp [scan] at h
  | c :: t, b, h => by
    have ih := scan_close q w hw t (!b && q == 34 && c == 92)
    by_cases hp : (!b && pre q w (c :: t)) = true
    · have hp2 := hp
      rw [Bool.and_eq_true] at hp2
      have ha := (pre_iff q w (c :: t)).1 hp2.2
      have e : scan q w b (c :: t) = if w = 3 then 3 + ext q 2 (t.drop 2) else w := by
        rw [scan, if_pos hp]
      rw [e]
      rcases hw with rfl | rfl
      · simp
        simpa using ha 0 (by omega)
      · simp only [if_true]
        refine ⟨by omega, ?_⟩
        intro k h1 h2
        by_cases hk : k < 3
        · exact ha k hk
        · have := ext_all q 2 (t.drop 2) (k - 3) (by omega)
          rw [List.getElem?_drop] at this
          have e2 : k = (2 + (k - 3)) + 1 := by omega
          rw [e2, List.getElem?_cons_succ]
          exact this
    · have e : scan q w b (c :: t) = 1 + scan q w (!b && q == 34 && c == 92) t := by
        rw [scan, if_neg hp]
      rw [e] at h ⊢
      obtain ⟨g1, g2⟩ := ih (by simp at h; omega)
      refine ⟨by omega, ?_⟩
      intro k h1 h2
      have e2 : k = (k - 1) + 1 := by omega
      rw [e2, List.getElem?_cons_succ]
      exact g2 (k - 1) (by omega) (by omega)

theorem pre_take (q : UInt8) (w n : Nat) (l : List UInt8) (hn : w ≤ n) : pre q w (l.take n) = pre q w l := by
  rw [Bool.eq_iff_iff, pre_iff, pre_iff]
  constructor
  · intro h k hk
    have := h k hk
    rwa [List.getElem?_take_of_lt (by omega)] at this
  · intro h k hk
    rw [List.getElem?_take_of_lt (by omega)]
    exact h k hk

theorem pre_take_false (q : UInt8) (w n : Nat) (l : List UInt8) (h : pre q w l = false) : pre q w (l.take n) = false := by
  rw [← Bool.not_eq_true] at h ⊢
  intro h2
  apply h
  rw [pre_iff] at h2 ⊢
  intro k hk
  have h3 := h2 k hk
  have hl := (List.getElem?_eq_some_iff.1 h3).1
  rw [List.length_take] at hl
  rwa [List.getElem?_take_of_lt (by omega)] at h3

theorem scan_cut (q : UInt8) (w : Nat) (hw : w = 1 ∨ w = 3) : ∀ (l : List UInt8) (b : Bool), scan q w b (l.take (scan q w b l)) = scan q w b l
  | [], b => by simp [scan]
  | c :: t, b => by
    have ih := scan_cut q w hw t (!b && q == 34 && c == 92)
    by_cases hp : (!b && pre q w (c :: t)) = true
    · have hp2 := hp
      rw [Bool.and_eq_true] at hp2
      have e : scan q w b (c :: t) = if w = 3 then 3 + ext q 2 (t.drop 2) else w := by
        rw [scan, if_pos hp]
      rw [e]
      rcases hw with rfl | rfl
      · simp only [if_neg (show ¬ (1 = 3) by decide)]
        have hq : pre q 1 ((c :: t).take 1) = true := by rw [pre_take _ _ _ _ (Nat.le_refl _)]; exact hp2.2
        rw [show (c :: t).take 1 = [c] from rfl] at hq ⊢
        rw [scan, if_pos (by rw [hq, hp2.1]; rfl)]; rfl
      · simp only [if_true]
        have hq : pre q 3 ((c :: t).take (3 + ext q 2 (t.drop 2))) = true := by rw [pre_take _ _ _ _ (by omega)]; exact hp2.2
        have e3 : (c :: t).take (3 + ext q 2 (t.drop 2)) = c :: t.take (2 + ext q 2 (t.drop 2)) := by
          rw [show 3 + ext q 2 (t.drop 2) = (2 + ext q 2 (t.drop 2)) + 1 by omega, List.take_succ_cons]
        rw [e3] at hq ⊢
        rw [scan, if_pos (by rw [hq, hp2.1]; rfl)]
        simp only [if_true]
        rw [List.drop_take, show 2 + ext q 2 (t.drop 2) - 2 = ext q 2 (t.drop 2) by omega, ext_cut]
    · have e : scan q w b (c :: t) = 1 + scan q w (!b && q == 34 && c == 92) t := by
        rw [scan, if_neg hp]
      rw [e, Nat.add_comm 1, List.take_succ_cons]
      have hn : ¬ (!b && pre q w (c :: t.take (scan q w (!b && q == 34 && c == 92) t))) = true := by
        intro h2
        apply hp
        rw [Bool.and_eq_true] at h2 ⊢
        refine ⟨h2.1, ?_⟩
        rw [← List.take_succ_cons] at h2
        cases hc : pre q w (c :: t) with
        | true => rfl
        | false => rw [pre_take_false _ _ _ _ hc] at h2; exact absurd h2.2 (by decide)
      rw [scan, if_neg hn, ih]; omega

theorem se_pos (q : UInt8) (t : List UInt8) : 0 < se (q :: t) ∧ se (q :: t) ≤ (q :: t).length := by
  by_cases hp : pre q 3 (q :: t) = true
  · have hl := pre_len hp
    have := scan_le q 3 (Or.inr rfl) (t.drop 2) false
    rw [se, if_pos hp]
    simp at this hl ⊢
    omega
  · have := scan_le q 1 (Or.inl rfl) t false
    rw [se, if_neg hp]
    simp; omega

theorem se_close (q : UInt8) (t : List UInt8) (w : Nat) (hw : w = if pre q 3 (q :: t) = true then 3 else 1) (h : se (q :: t) < (q :: t).length) :
    2 * w ≤ se (q :: t) ∧ ∀ k, se (q :: t) - w ≤ k → k < se (q :: t) → (q :: t)[k]? = some q := by
  by_cases hp : pre q 3 (q :: t) = true
  · rw [if_pos hp] at hw
    subst hw
    have e : se (q :: t) = 3 + scan q 3 false (t.drop 2) := by rw [se, if_pos hp]
    have hl := pre_len hp
    rw [e] at h ⊢
    simp at hl h
    obtain ⟨g1, g2⟩ := scan_close q 3 (Or.inr rfl) (t.drop 2) false (by simp; omega)
    refine ⟨by omega, ?_⟩
    intro k h1 h2
    have := g2 (k - 3) (by omega) (by omega)
    rw [List.getElem?_drop] at this
    have e2 : k = (2 + (k - 3)) + 1 := by omega
    rw [e2, List.getElem?_cons_succ]
    exact this
  · rw [if_neg hp] at hw
    subst hw
    have e : se (q :: t) = 1 + scan q 1 false t := by rw [se, if_neg hp]
    rw [e] at h ⊢
    simp at h
    obtain ⟨g1, g2⟩ := scan_close q 1 (Or.inl rfl) t false (by omega)
    refine ⟨by omega, ?_⟩
    intro k h1 h2
    have := g2 (k - 1) (by omega) (by omega)
    have e2 : k = (k - 1) + 1 := by omega
    rw [e2, List.getElem?_cons_succ]
    exact this

theorem se_cut : ∀ l : List UInt8, se (l.take (se l)) = se l
  | [] => by simp [se]
  | q :: t => by
    by_cases hp : pre q 3 (q :: t) = true
    · have e : se (q :: t) = 3 + scan q 3 false (t.drop 2) := by rw [se, if_pos hp]
      rw [e]
      have hq : pre q 3 ((q :: t).take (3 + scan q 3 false (t.drop 2))) = true := by rw [pre_take _ _ _ _ (by omega)]; exact hp
      have e3 : (q :: t).take (3 + scan q 3 false (t.drop 2)) = q :: t.take (2 + scan q 3 false (t.drop 2)) := by
        rw [show 3 + scan q 3 false (t.drop 2) = (2 + scan q 3 false (t.drop 2)) + 1 by omega, List.take_succ_cons]
      rw [e3] at hq ⊢
      rw [se, if_pos hq, List.drop_take, show 2 + scan q 3 false (t.drop 2) - 2 = scan q 3 false (t.drop 2) by omega, scan_cut _ _ (Or.inr rfl)]
    · have e : se (q :: t) = 1 + scan q 1 false t := by rw [se, if_neg hp]
      rw [e, Nat.add_comm 1, List.take_succ_cons]
      have hn : ¬ pre q 3 (q :: t.take (scan q 1 false t)) = true := by
        rw [← List.take_succ_cons, pre_take_false _ _ _ _ (by simpa using hp)]; decide
      rw [se, if_neg hn, scan_cut _ _ (Or.inl rfl)]; omega

end Go.Proofs.Qxb6602432a.Se
