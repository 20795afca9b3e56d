/-
  A SET THAT STARTED EMPTY AND TOOK A LIST OF NAMES: what it holds, and its methods' contracts in those words.
-/
import Derived.Test.Qxb6602432aRsHelp
set_option linter.unusedVariables false
namespace Go.Proofs.Qxb6602432a
open Go.RowKit Go.Maps

/-- the distinct names among the first k, in the order first seen -/
def dist (ss : Nat → ByteArray) : Nat → List ByteArray
  | 0 => []
  | k + 1 => if inFew ss k (ss k) then dist ss k else dist ss k ++ [ss k]

theorem inL_dist (ss : Nat → ByteArray) (x : ByteArray) : ∀ k, inL (dist ss k) x = inFew ss k x
  | 0 => rfl
  | k + 1 => by
    rw [inFew_succ, dist]
    have ih := inL_dist ss x k
    by_cases h : inFew ss k (ss k) = true
    · rw [if_pos h, ih]
      cases hx : (ss k).toList == x.toList with
      | false => simp
      | true =>
        have e : inFew ss k x = inFew ss k (ss k) := by
          unfold inFew
          rw [beq_iff_eq] at hx
          rw [hx]
        rw [e, h]; rfl
    · rw [if_neg h, inL_snoc, ih]

theorem szL_dist (ss : Nat → ByteArray) : ∀ k, szL (dist ss k) = (dist ss k).length
  | 0 => rfl
  | k + 1 => by
    rw [dist]
    by_cases h : inFew ss k (ss k) = true
    · rw [if_pos h]; exact szL_dist ss k
    · rw [if_neg h, szL_snoc, inL_dist, if_neg h, szL_dist ss k]; simp

theorem dist_len (ss : Nat → ByteArray) : ∀ k, (dist ss k).length ≤ k
  | 0 => Nat.le_refl _
  | k + 1 => by
    rw [dist]
    have := dist_len ss k
    split <;> simp <;> omega

theorem dist_small (ss : Nat → ByteArray) (B : Nat) : ∀ k, (∀ i, i < k → (ss i).size ≤ B) → ∀ y ∈ dist ss k, y.size ≤ B
  | 0, _, y, hy => by simp [dist] at hy
  | k + 1, h, y, hy => by
    rw [dist] at hy
    have ih := dist_small ss B k (fun i hi => h i (by omega))
    split at hy
    · exact ih y hy
    · rcases List.mem_append.1 hy with h1 | h1
      · exact ih y h1
      · simp at h1
        rw [h1]; exact h k (by omega)

/-- what ZZNewReadSet hands back, the map off: a new set -/
def NewSet (w w' : World) (few : Nat → ByteArray) (n : Int) (e : Ending) : Prop := ∃ b, e = .returned (.pointer (some ⟨b, 0, none⟩)) ∧ RsB w' b few n none ∧ w.heap.size ≤ b ∧ Kept (fun _ => False) w w'

theorem new17 (w : World) (few : Nat → ByteArray) (n : Int) (v : Value) : Calls Try.prog 17 #[aggOf few, .int .i64 n, .bool false, v] w fun e w' => NewSet w w' few n e := by
  refine (new17_off w few n v).mono ?_
  rintro e w' ⟨rfl, h1, h2, h3⟩
  exact ⟨_, rfl, h1, by omega, h3⟩

/-- the names of a list, by place; beyond its end the empty string -/
def gf (L : List ByteArray) : Nat → ByteArray := fun k => L.getD k ByteArray.empty

/-- the set in block b holds just the names of L, in the order in which they came; its map, if it is on, lies from block B on -/
def SetS (w : World) (b B : Nat) (L : List ByteArray) : Prop :=
  (L.length ≤ 8 ∧ RsB w b (gf L) L.length none) ∨ (8 < L.length ∧ ∃ bm, B ≤ bm ∧ RsB w b (gf L) 8 (some bm) ∧ OwnsL w bm L)

theorem RsB.congr {w : World} {b : Nat} {few few' : Nat → ByteArray} {n : Int} {m : Option Nat} (h : RsB w b few n m) (he : ∀ k, k < 8 → few k = few' k) : RsB w b few' n m := by
  unfold RsB at h ⊢
  rw [h]
  simp only [rsCells]
  rw [he 0 (by omega), he 1 (by omega), he 2 (by omega), he 3 (by omega), he 4 (by omega), he 5 (by omega), he 6 (by omega), he 7 (by omega)]

theorem fewL_gf (L : List ByteArray) : fewL (gf L) L.length = L := by
  unfold fewL gf
  apply List.ext_getElem
  · simp
  · intro i h1 h2
    simp [List.getElem?_eq_getElem h2]

theorem inFew_gf (L : List ByteArray) (x : ByteArray) : inFew (gf L) L.length x = inL L x := by
  rw [← inL_fewL, fewL_gf]

theorem gf_snoc_new (L : List ByteArray) (x : ByteArray) : ∀ k, upd (gf L) L.length x k = gf (L ++ [x]) k := by
  intro k
  unfold upd gf
  by_cases h : k = L.length
  · rw [if_pos h, h]; simp
  · rw [if_neg h]
    by_cases h2 : k < L.length
    · simp [List.getElem?_append_left h2]
    · rw [List.getD_eq_getElem?_getD, List.getD_eq_getElem?_getD, List.getElem?_eq_none (by omega), List.getElem?_eq_none (by simp; omega)]

theorem gf_snoc_old (L : List ByteArray) (x : ByteArray) (k : Nat) (h : k < L.length) : gf L k = gf (L ++ [x]) k := by
  unfold gf
  simp [List.getElem?_append_left h]

theorem SetS.lt {w : World} {b B : Nat} {L : List ByteArray} (h : SetS w b B L) : b < w.heap.size := by
  rcases h with ⟨_, h⟩ | ⟨_, bm, _, h, _⟩ <;> exact h.lt

theorem SetS.kept {S : Nat → Prop} {w w' : World} {b B : Nat} {L : List ByteArray} (h : SetS w b B L) (hk : Kept S w w') (hs : ¬ S b) (hs2 : ∀ k, B ≤ k → ¬ S k) : SetS w' b B L := by
  rcases h with ⟨h1, h2⟩ | ⟨h1, bm, h2, h3, h4⟩
  · exact .inl ⟨h1, h2.kept hk hs⟩
  · exact .inr ⟨h1, bm, h2, h3.kept hk hs, h4.kept hk (hs2 bm h2)⟩

theorem SetS.start {w : World} {b B : Nat} (h : RsB w b (fun _ => ByteArray.empty) 0 none) : SetS w b B [] :=
  .inl ⟨by simp, h.congr (fun k _ => by simp [gf])⟩

theorem hasS (w : World) (b B : Nat) (L : List ByteArray) (x : ByteArray) (h : SetS w b B L) (hx : x.size ≤ maxLen) :
    Calls Try.prog 18 #[.pointer (some ⟨b, 0, none⟩), .string x] w fun e w' => e = .returned (.bool (inL L x)) ∧ Kept (fun _ => False) w w' := by
  rcases h with ⟨h1, h2⟩ | ⟨h1, bm, h2, h3, h4⟩
  · refine (has18_off w b (gf L) L.length x h2 h1).mono ?_
    rintro e w' ⟨rfl, rfl⟩
    exact ⟨by rw [inFew_gf], (Kept.refl _ _).drew⟩
  · refine (has18_on w b bm (gf L) 8 L x h3 h4 hx).mono ?_
    rintro e w' ⟨rfl, rfl⟩
    exact ⟨rfl, Kept.refl _ _⟩

theorem lenS (w : World) (b B : Nat) (L : List ByteArray) (h : SetS w b B L) (hd : szL L = L.length) :
    Calls Try.prog 20 #[.pointer (some ⟨b, 0, none⟩)] w fun e w' => e = .returned (.int .i64 L.length) ∧ w' = w := by
  rcases h with ⟨h1, h2⟩ | ⟨h1, bm, h2, h3, h4⟩
  · exact len20_off w b (gf L) L.length h2
  · have := len20_on w b bm (gf L) 8 L h3 h4
    rw [hd] at this
    exact this

theorem addS_there (w : World) (b B : Nat) (L : List ByteArray) (x : ByteArray) (h : SetS w b B L) (hx : x.size ≤ maxLen) (hin : inL L x = true) :
    Calls Try.prog 21 #[.pointer (some ⟨b, 0, none⟩), .string x] w fun e w' => e = .returned (.tuple #[]) ∧ Kept (fun _ => False) w w' := by
  rcases h with ⟨h1, h2⟩ | ⟨h1, bm, h2, h3, h4⟩
  · refine (add21_of (add31_there_off w b (gf L) L.length x h2 h1 (by rw [inFew_gf]; exact hin))).mono ?_
    rintro e w' ⟨rfl, rfl⟩
    exact ⟨rfl, (Kept.refl _ _).drew⟩
  · refine (add21_of (add31_there_on w b bm (gf L) 8 L x h3 h4 hx hin)).mono ?_
    rintro e w' ⟨rfl, rfl⟩
    exact ⟨rfl, Kept.refl _ _⟩

theorem addS_new (w : World) (b B : Nat) (L : List ByteArray) (x : ByteArray) (h : SetS w b B L) (hB : B ≤ w.heap.size) (hx : x.size ≤ maxLen) (hL : ∀ y ∈ L, y.size ≤ maxLen) (hl : L.length < maxLen) (hin : inL L x = false) :
    Calls Try.prog 21 #[.pointer (some ⟨b, 0, none⟩), .string x] w fun e w' => e = .returned (.tuple #[]) ∧ SetS w' b B (L ++ [x]) ∧ Kept (fun k => k = b ∨ B ≤ k) w w' := by
  rcases h with ⟨h1, h2⟩ | ⟨h1, bm, h2, h3, h4⟩
  · by_cases h8 : L.length < 8
    · refine (add21_of (add31_inline w b (gf L) L.length x h2 h8 (by rw [inFew_gf]; exact hin))).mono ?_
      rintro e w' ⟨rfl, r1, r2⟩
      refine ⟨rfl, .inl ⟨by simp; omega, ?_⟩, r2.mono (fun k _ hk => .inl hk)⟩
      have := r1.congr (few' := gf (L ++ [x])) (fun k _ => gf_snoc_new L x k)
      rw [List.length_append]
      exact this
    · have e8 : L.length = 8 := by omega
      have h2' : RsB w b (gf L) 8 none := by rw [e8] at h2; exact h2
      refine (add21_of (add31_spill w b (gf L) x h2' hx ?_ (by rw [← e8, inFew_gf]; exact hin))).mono ?_
      · intro k hk
        unfold gf
        rw [List.getD_eq_getElem?_getD, List.getElem?_eq_getElem (by omega)]
        exact hL _ (List.getElem_mem _)
      · rintro e w' ⟨rfl, r1, r2, r3⟩
        refine ⟨rfl, .inr ⟨by simp; omega, w.heap.size, hB, r1.congr (fun k hk => gf_snoc_old L x k (by omega)), ?_⟩, r3.mono (fun k _ hk => .inl hk)⟩
        have e := fewL_gf L
        rw [e8] at e
        rwa [e] at r2
  · refine (add21_of (add31_map w b bm (gf L) 8 L x h3 h4 hl hx hin)).mono ?_
    rintro e w' ⟨rfl, r1, r2, r3⟩
    refine ⟨rfl, .inr ⟨by simp; omega, bm, h2, r1.congr (fun k hk => gf_snoc_old L x k (by omega)), r2⟩, r3.mono (fun k _ hk => .inr (hk ▸ h2))⟩

end Go.Proofs.Qxb6602432a
