/-
  WHAT FnReadSetAddExact ASKS OF A SET, in one bundle; and the four sets that come to her.
-/
import Derived.Test.Qxb6602432aExHelp
set_option linter.unusedVariables false
namespace Go.Proofs.Qxb6602432a
open Go.RowKit Go.Maps

/-- a new set, as ZZNewReadSet hands it back -/
def NewG (w w' : World) (S0 : Nat → Nat → World → Prop) (e : Ending) : Prop :=
  ∃ b, e = .returned (.pointer (some ⟨b, 0, none⟩)) ∧ S0 b w'.heap.size w' ∧ w.heap.size ≤ b ∧ b < w'.heap.size ∧ Kept (fun _ => False) w w'

/-- how the set's fields stand behind add -/
def Fin6 (few : Nat → ByteArray) (n : Int) (on had : Bool) (name : ByteArray) (f1 : Nat → ByteArray) (n1 : Int) (on1 : Bool) : Prop :=
  (on = true ∧ on1 = true ∧ f1 = few ∧ n1 = n) ∨
  (on = false ∧ had = true ∧ on1 = false ∧ f1 = few ∧ n1 = n) ∨
  (on = false ∧ had = false ∧ ∃ k : Nat, n = k ∧ k < 8 ∧ on1 = false ∧ n1 = (k : Int) + 1 ∧ f1 = upd few k name) ∨
  (on = false ∧ had = false ∧ n = 8 ∧ on1 = true ∧ f1 = few ∧ n1 = n)

/-- the set ahead of add (S0), behind it (S1), and what its methods answer -/
structure Ifc (few : Nat → ByteArray) (n : Int) (on : Bool) (len : Nat) (ss : Nat → ByteArray) (name : ByteArray) where
  S0 : Nat → Nat → World → Prop
  S1 : Nat → World → Prop
  h0 : ByteArray → Bool
  l0 : Int
  l1 : Int
  f1 : Nat → ByteArray
  n1 : Int
  on1 : Bool
  new : ∀ w oa cap, StrsAt w oa len ss → Calls Try.prog 17 #[agg8 few, .int .i64 n, .bool on, .slice oa len cap] w fun e w' => NewG w w' S0 e
  kept0 : ∀ (T : Nat → Prop) b B w w', S0 b B w → Kept T w w' → (∀ k, b ≤ k → k < B → ¬ T k) → S0 b B w'
  kept1 : ∀ b w w', S1 b w → Kept (fun _ => False) w w' → S1 b w'
  has0 : ∀ b B w x, S0 b B w → x.size ≤ maxLen → Calls Try.prog 18 #[.pointer (some ⟨b, 0, none⟩), .string x] w fun e w' => e = .returned (.bool (h0 x)) ∧ ∃ m, w' = w.drewN m
  len0 : ∀ b B w, S0 b B w → Calls Try.prog 20 #[.pointer (some ⟨b, 0, none⟩)] w fun e w' => e = .returned (.int .i64 l0) ∧ w' = w
  add : ∀ b B w, S0 b B w → B ≤ w.heap.size → Calls Try.prog 21 #[.pointer (some ⟨b, 0, none⟩), .string name] w fun e w' => e = .returned (.tuple #[]) ∧ S1 b w' ∧ Kept (fun k => b ≤ k ∧ k < B) w w'
  has1 : ∀ b w x, S1 b w → x.size ≤ maxLen → Calls Try.prog 18 #[.pointer (some ⟨b, 0, none⟩), .string x] w fun e w' => e = .returned (.bool (h0 x || x.toList == name.toList)) ∧ ∃ m, w' = w.drewN m
  len1 : ∀ b w, S1 b w → Calls Try.prog 20 #[.pointer (some ⟨b, 0, none⟩)] w fun e w' => e = .returned (.int .i64 l1) ∧ w' = w
  lens : l1 = if h0 name then l0 else l0 + 1
  lb0 : 0 ≤ l0
  lb1 : l0 ≤ 1048577
  fields : ∀ b w, S1 b w → Calls Try.prog 22 #[.pointer (some ⟨b, 0, none⟩)] w fun e w' => e = .returned (.tuple #[agg8 f1, .int .i64 n1, .bool on1]) ∧ Kept (fun _ => False) w w'
  fin : Fin6 few n on (h0 name) name f1 n1 on1

theorem beqL (a b : ByteArray) : (a.toList == b.toList) = (b.toList == a.toList) := by
  rw [Bool.eq_iff_iff, beq_iff_eq, beq_iff_eq]
  exact ⟨Eq.symm, Eq.symm⟩

theorem inL_same (L : List ByteArray) {x y : ByteArray} (h : (x.toList == y.toList) = true) : inL L x = inL L y := by
  unfold inL
  rw [beq_iff_eq] at h
  rw [h]

theorem inFew_same (f : Nat → ByteArray) (n : Nat) {x y : ByteArray} (h : (x.toList == y.toList) = true) : inFew f n x = inFew f n y := by
  unfold inFew
  rw [beq_iff_eq] at h
  rw [h]

/-! ### the map on -/

/-- the names behind add -/
def addL (L : List ByteArray) (x : ByteArray) : List ByteArray := if inL L x = true then L else L ++ [x]

theorem inL_addL (L : List ByteArray) (name x : ByteArray) : inL (addL L name) x = (inL L x || x.toList == name.toList) := by
  unfold addL
  by_cases h : inL L name = true
  · rw [if_pos h]
    cases hx : x.toList == name.toList with
    | false => simp
    | true => rw [inL_same L hx, h]; rfl
  · rw [if_neg h, inL_snoc, beqL]

theorem szL_addL (L : List ByteArray) (name : ByteArray) : (szL (addL L name) : Int) = if inL L name then (szL L : Int) else (szL L : Int) + 1 := by
  unfold addL
  by_cases h : inL L name = true
  · rw [if_pos h, if_pos h]
  · rw [if_neg h, if_neg h, szL_snoc, if_neg h]; rfl

def ifcOn (few : Nat → ByteArray) (n : Int) (len : Nat) (ss : Nat → ByteArray) (name : ByteArray) (hlen : len ≤ 65536) (hss : ∀ k, k < len → (ss k).size ≤ 1048576) (hname : name.size ≤ maxLen) : Ifc few n true len ss name where
  S0 := fun b B w => ∃ bm, RsB w b few n (some bm) ∧ OwnsL w bm (fewL ss len) ∧ b ≤ bm ∧ bm < B ∧ b < B
  S1 := fun b w => ∃ bm, RsB w b few n (some bm) ∧ OwnsL w bm (addL (fewL ss len) name)
  h0 := fun x => inL (fewL ss len) x
  l0 := szL (fewL ss len)
  l1 := szL (addL (fewL ss len) name)
  f1 := few
  n1 := n
  on1 := true
  new := fun w oa cap h => by
    refine (new17_on w few ss n oa len cap h (by omega) hss).mono ?_
    rintro e w' ⟨b, bm, rfl, h1, h2, h3, h4, h5⟩
    exact ⟨b, rfl, ⟨bm, h1, h2, h4, h2.lt, h1.lt⟩, h3, h1.lt, h5⟩
  kept0 := fun T b B w w' h hk hT => by
    obtain ⟨bm, h1, h2, h3, h4, h5⟩ := h
    exact ⟨bm, h1.kept hk (hT b (Nat.le_refl _) h5), h2.kept hk (hT bm h3 h4), h3, h4, h5⟩
  kept1 := fun b w w' h hk => by
    obtain ⟨bm, h1, h2⟩ := h
    exact ⟨bm, h1.kept hk (fun h => h), h2.kept hk (fun h => h)⟩
  has0 := fun b B w x h hx => by
    obtain ⟨bm, h1, h2, _⟩ := h
    refine (has18_on w b bm few n _ x h1 h2 hx).mono ?_
    rintro e w' ⟨rfl, rfl⟩
    exact ⟨rfl, 0, rfl⟩
  len0 := fun b B w h => by
    obtain ⟨bm, h1, h2, _⟩ := h
    exact len20_on w b bm few n _ h1 h2
  add := fun b B w h hB => by
    obtain ⟨bm, h1, h2, h3, h4, h5⟩ := h
    by_cases hin : inL (fewL ss len) name = true
    · refine (add21_of (add31_there_on w b bm few n _ name h1 h2 hname hin)).mono ?_
      rintro e w' ⟨rfl, rfl⟩
      exact ⟨rfl, ⟨bm, h1, by rw [addL, if_pos hin]; exact h2⟩, Kept.refl _ _⟩
    · refine (add21_of (add31_map w b bm few n _ name h1 h2 (by simp [fewL, maxLen]; omega) hname (by simpa using hin))).mono ?_
      rintro e w' ⟨rfl, r1, r2, r3⟩
      exact ⟨rfl, ⟨bm, r1, by rw [addL, if_neg hin]; exact r2⟩, r3.mono (fun k _ hk => by subst hk; exact ⟨h3, h4⟩)⟩
  has1 := fun b w x h hx => by
    obtain ⟨bm, h1, h2⟩ := h
    refine (has18_on w b bm few n _ x h1 h2 hx).mono ?_
    rintro e w' ⟨rfl, rfl⟩
    exact ⟨by rw [inL_addL], 0, rfl⟩
  len1 := fun b w h => by
    obtain ⟨bm, h1, h2⟩ := h
    exact len20_on w b bm few n _ h1 h2
  lens := szL_addL _ _
  lb0 := by omega
  lb1 := by have := szL_le (fewL ss len); simp [fewL] at this; have e : (List.range len).map ss = fewL ss len := rfl; rw [e] at this; omega
  fields := fun b w h => by
    obtain ⟨bm, h1, h2⟩ := h
    exact fields22 w b few n (some bm) h1
  fin := .inl ⟨rfl, rfl, rfl, rfl⟩

/-! ### the map off -/
theorem newOff {few : Nat → ByteArray} {n : Int} {len : Nat} {ss : Nat → ByteArray} (w : World) (oa : Option Addr) (cap : Nat) (h : StrsAt w oa len ss) :
    Calls Try.prog 17 #[agg8 few, .int .i64 n, .bool false, .slice oa len cap] w fun e w' => NewG w w' (fun b B w => RsB w b few n none ∧ b < B) e := by
  refine (new17 w few n (.slice oa len cap)).mono ?_
  rintro e w' ⟨b, rfl, h1, h2, h3⟩
  exact ⟨b, rfl, ⟨h1, h1.lt⟩, h2, h1.lt, h3⟩

theorem hasOff {few : Nat → ByteArray} {n : Nat} (hn : n ≤ 8) (b : Nat) (w : World) (x : ByteArray) (h : RsB w b few n none) :
    Calls Try.prog 18 #[.pointer (some ⟨b, 0, none⟩), .string x] w fun e w' => e = .returned (.bool (inFew few n x)) ∧ ∃ m, w' = w.drewN m := by
  refine (has18_off w b few n x h hn).mono ?_
  rintro e w' ⟨rfl, rfl⟩
  exact ⟨rfl, 1, rfl⟩

def ifcHad (few : Nat → ByteArray) (n : Nat) (hn : n ≤ 8) (len : Nat) (ss : Nat → ByteArray) (name : ByteArray) (hin : inFew few n name = true) : Ifc few n false len ss name where
  S0 := fun b B w => RsB w b few n none ∧ b < B
  S1 := fun b w => RsB w b few n none
  h0 := fun x => inFew few n x
  l0 := n
  l1 := n
  f1 := few
  n1 := n
  on1 := false
  new := fun w oa cap h => newOff w oa cap h
  kept0 := fun T b B w w' h hk hT => ⟨h.1.kept hk (hT b (Nat.le_refl _) h.2), h.2⟩
  kept1 := fun b w w' h hk => h.kept hk (fun h => h)
  has0 := fun b B w x h hx => hasOff hn b w x h.1
  len0 := fun b B w h => len20_off w b few n h.1
  add := fun b B w h hB => by
    refine (add21_of (add31_there_off w b few n name h.1 hn hin)).mono ?_
    rintro e w' ⟨rfl, rfl⟩
    exact ⟨rfl, h.1, (Kept.refl _ _).drew⟩
  has1 := fun b w x h hx => by
    refine (hasOff hn b w x h).mono ?_
    rintro e w' ⟨rfl, hw⟩
    refine ⟨?_, hw⟩
    cases he : x.toList == name.toList with
    | false => simp
    | true => rw [inFew_same few n he, hin]; rfl
  len1 := fun b w h => len20_off w b few n h
  lens := by rw [hin]; rfl
  lb0 := by omega
  lb1 := by omega
  fields := fun b w h => fields22 w b few n none h
  fin := .inr (.inl ⟨rfl, hin, rfl, rfl, rfl⟩)

theorem inFew_upd (few : Nat → ByteArray) (n : Nat) (name x : ByteArray) : inFew (upd few n name) (n + 1) x = (inFew few n x || x.toList == name.toList) := by
  rw [inFew_succ]
  have e1 : inFew (upd few n name) n x = inFew few n x := by
    unfold inFew
    rw [Bool.eq_iff_iff, List.any_eq_true, List.any_eq_true]
    constructor
    · rintro ⟨k, hk, h⟩
      have := List.mem_range.1 hk
      refine ⟨k, hk, ?_⟩
      unfold upd at h
      rwa [if_neg (by omega)] at h
    · rintro ⟨k, hk, h⟩
      have := List.mem_range.1 hk
      refine ⟨k, hk, ?_⟩
      unfold upd
      rwa [if_neg (by omega)]
  rw [e1, beqL x name]
  unfold upd
  simp

def ifcInl (few : Nat → ByteArray) (n : Nat) (hn : n < 8) (len : Nat) (ss : Nat → ByteArray) (name : ByteArray) (hin : inFew few n name = false) : Ifc few n false len ss name where
  S0 := fun b B w => RsB w b few n none ∧ b < B
  S1 := fun b w => RsB w b (upd few n name) ((n + 1 : Nat) : Int) none
  h0 := fun x => inFew few n x
  l0 := n
  l1 := ((n + 1 : Nat) : Int)
  f1 := upd few n name
  n1 := ((n + 1 : Nat) : Int)
  on1 := false
  new := fun w oa cap h => newOff w oa cap h
  kept0 := fun T b B w w' h hk hT => ⟨h.1.kept hk (hT b (Nat.le_refl _) h.2), h.2⟩
  kept1 := fun b w w' h hk => h.kept hk (fun h => h)
  has0 := fun b B w x h hx => hasOff (by omega) b w x h.1
  len0 := fun b B w h => len20_off w b few n h.1
  add := fun b B w h hB => by
    refine (add21_of (add31_inline w b few n name h.1 hn hin)).mono ?_
    rintro e w' ⟨rfl, r1, r2⟩
    exact ⟨rfl, r1, r2.mono (fun k _ hk => by subst hk; exact ⟨Nat.le_refl _, h.2⟩)⟩
  has1 := fun b w x h hx => by
    refine (hasOff (n := n + 1) (by omega) b w x h).mono ?_
    rintro e w' ⟨rfl, hw⟩
    exact ⟨by rw [inFew_upd], hw⟩
  len1 := fun b w h => len20_off w b _ _ h
  lens := by rw [hin]; simp
  lb0 := by omega
  lb1 := by omega
  fields := fun b w h => fields22 w b _ _ none h
  fin := .inr (.inr (.inl ⟨rfl, hin, n, rfl, hn, rfl, by simp, rfl⟩))

/-- no two of the first n are the same -/
def Dist (few : Nat → ByteArray) (n : Nat) : Prop := ∀ a b, a < b → b < n → ((few a).toList == (few b).toList) = false

theorem szL_few (few : Nat → ByteArray) (n : Nat) (hd : Dist few n) : ∀ k, k ≤ n → szL (fewL few k) = k
  | 0, _ => rfl
  | k + 1, hk => by
    rw [fewL_succ, szL_snoc, inL_fewL, szL_few few n hd k (by omega)]
    have : inFew few k (few k) = false := by
      cases h : inFew few k (few k) with
      | false => rfl
      | true =>
        unfold inFew at h
        rw [List.any_eq_true] at h
        obtain ⟨i, hi, h2⟩ := h
        have := hd i k (List.mem_range.1 hi) (by omega)
        rw [h2] at this
        cases this
    rw [this]; rfl

def ifcSpill (few : Nat → ByteArray) (len : Nat) (ss : Nat → ByteArray) (name : ByteArray) (hname : name.size ≤ maxLen) (hfs : ∀ k, k < 8 → (few k).size ≤ maxLen) (hin : inFew few 8 name = false) (hd : Dist few 8) : Ifc few 8 false len ss name where
  S0 := fun b B w => RsB w b few 8 none ∧ b < B
  S1 := fun b w => ∃ bm, RsB w b few 8 (some bm) ∧ OwnsL w bm (fewL few 8 ++ [name])
  h0 := fun x => inFew few 8 x
  l0 := 8
  l1 := szL (fewL few 8 ++ [name])
  f1 := few
  n1 := 8
  on1 := true
  new := fun w oa cap h => newOff w oa cap h
  kept0 := fun T b B w w' h hk hT => ⟨h.1.kept hk (hT b (Nat.le_refl _) h.2), h.2⟩
  kept1 := fun b w w' h hk => by
    obtain ⟨bm, h1, h2⟩ := h
    exact ⟨bm, h1.kept hk (fun h => h), h2.kept hk (fun h => h)⟩
  has0 := fun b B w x h hx => hasOff (n := 8) (by omega) b w x h.1
  len0 := fun b B w h => len20_off w b few 8 h.1
  add := fun b B w h hB => by
    refine (add21_of (add31_spill w b few name h.1 hname hfs hin)).mono ?_
    rintro e w' ⟨rfl, r1, r2, r3⟩
    exact ⟨rfl, ⟨_, r1, r2⟩, r3.mono (fun k _ hk => by subst hk; exact ⟨Nat.le_refl _, h.2⟩)⟩
  has1 := fun b w x h hx => by
    obtain ⟨bm, h1, h2⟩ := h
    refine (has18_on w b bm few 8 _ x h1 h2 hx).mono ?_
    rintro e w' ⟨rfl, rfl⟩
    exact ⟨by rw [inL_snoc, inL_fewL, beqL], 0, rfl⟩
  len1 := fun b w h => by
    obtain ⟨bm, h1, h2⟩ := h
    exact len20_on w b bm few 8 _ h1 h2
  lens := by rw [hin, szL_snoc, inL_fewL, hin, szL_few few 8 hd 8 (Nat.le_refl _)]; rfl
  lb0 := by omega
  lb1 := by omega
  fields := fun b w h => by
    obtain ⟨bm, h1, h2⟩ := h
    exact fields22 w b few 8 (some bm) h1
  fin := .inr (.inr (.inr ⟨rfl, hin, rfl, rfl, rfl, rfl⟩))

end Go.Proofs.Qxb6602432a
