/-
  SETS OF STRINGS (map[string]bool): the names that were put into one, in order; the walk of zzSet.
-/
import Derived.Test.Qxb6601307aIdx
import Derived.Test.Qxb6601307aRow
set_option linter.unusedVariables false
namespace Go.Proofs.Qxb6601307a
open Go.RowKit Go.Maps

/-- is x among the first n of them? -/
def inFew (few : Nat → ByteArray) (n : Nat) (x : ByteArray) : Bool := (List.range n).any fun k => (few k).toList == x.toList

theorem inFew_hit {few : Nat → ByteArray} {n k : Nat} {x : ByteArray} (hk : k < n) (h : ((few k).toList == x.toList) = true) : inFew few n x = true := by
  unfold inFew
  rw [List.any_eq_true]
  exact ⟨k, List.mem_range.2 hk, h⟩

theorem inFew_succ (few : Nat → ByteArray) (k : Nat) (x : ByteArray) : inFew few (k + 1) x = (inFew few k x || (few k).toList == x.toList) := by
  unfold inFew
  rw [List.range_succ, List.any_append]
  simp

theorem inFew_step {few : Nat → ByteArray} {k : Nat} {x : ByteArray} (h : inFew few k x = false) (hx : ((few k).toList == x.toList) = false) : inFew few (k + 1) x = false := by
  rw [inFew_succ, h, hx]; rfl

/-- is x on the list? -/
def inL (L : List ByteArray) (x : ByteArray) : Bool := L.any fun y => y.toList == x.toList

theorem inL_snoc (L : List ByteArray) (y x : ByteArray) : inL (L ++ [y]) x = (inL L x || y.toList == x.toList) := by
  unfold inL; simp

/-- the first n of them, as a list -/
def fewL (few : Nat → ByteArray) (n : Nat) : List ByteArray := (List.range n).map few

theorem fewL_succ (few : Nat → ByteArray) (n : Nat) : fewL few (n + 1) = fewL few n ++ [few n] := by
  unfold fewL; rw [List.range_succ]; simp

theorem inL_fewL (few : Nat → ByteArray) (n : Nat) (x : ByteArray) : inL (fewL few n) x = inFew few n x := by
  unfold inL fewL inFew; rw [List.any_map]; rfl

/-- what the map's elements read as: true -/
abbrev tru : DataW Unit := .lit (.bool true)

/-- what a name reads as, as a key -/
def keyL (s : ByteArray) : Lit := .string s.data.toList

/-- the datum of a map into which the names of L were put, in order -/
def setL (L : List ByteArray) : DataW Unit := setOf tru (L.map keyL)

theorem keyL_isKey (s : ByteArray) : WideAt.IsKeyLit (keyL s) := by simp [keyL, WideAt.IsKeyLit]

theorem keys_isKey (L : List ByteArray) : ∀ k ∈ L.map keyL, WideAt.IsKeyLit k := by
  intro k hk
  obtain ⟨s, _, rfl⟩ := List.mem_map.1 hk
  exact keyL_isKey s

theorem setL_snoc (L : List ByteArray) (x : ByteArray) : setL (L ++ [x]) = (setL L).put (keyL x) tru := by
  unfold setL; rw [List.map_append]; exact setOf_snoc _ _ _

theorem sameKey_L (y x : ByteArray) : (keyL y).sameKey (keyL x) = (y.toList == x.toList) := by
  rw [Lib.toList_data, Lib.toList_data]
  simp [keyL, Lit.sameKey]

theorem has_L (L : List ByteArray) (x : ByteArray) : Maps.has (setL L) (keyL x) = inL L x := by
  unfold setL inL
  rw [has_setOf _ _ _ (keys_isKey L), List.any_map]
  congr 1
  funext y
  exact sameKey_L y x

theorem keyL_eq {y x : ByteArray} : keyL y = keyL x ↔ (y.toList == x.toList) = true := by
  rw [Lib.toList_data, Lib.toList_data]
  simp [keyL]

theorem snocInd {P : List ByteArray → Prop} (h0 : P []) (h1 : ∀ L x, P L → P (L ++ [x])) : ∀ n (L : List ByteArray), L.length = n → P L
  | 0, L, h => by cases L with | nil => exact h0 | cons _ _ => simp at h
  | n + 1, L, h => by
    have hne : L ≠ [] := by intro e; rw [e] at h; simp at h
    have e := List.dropLast_concat_getLast hne
    rw [← e]
    exact h1 _ _ (snocInd h0 h1 n _ (by simp [h]))

theorem setL_isMap (L : List ByteArray) : IsMap (setL L) := (tidy_setOf tru _ (keys_isKey L)).isMap

theorem setL_tidy (L : List ByteArray) : Tidy (setL L) := tidy_setOf tru _ (keys_isKey L)

theorem atKey_L (L : List ByteArray) (x : ByteArray) : (setL L).atKey (keyL x) (.lit (.bool false)) = .lit (.bool (inL L x)) := by
  refine snocInd (P := fun L => (setL L).atKey (keyL x) (.lit (.bool false)) = .lit (.bool (inL L x))) ?_ ?_ _ L rfl
  · rfl
  · intro L y ih
    rw [setL_snoc, inL_snoc]
    by_cases h : keyL x = keyL y
    · rw [h, atKey_put_same (setL_isMap L) (keyL_isKey y), keyL_eq.1 h.symm]; simp
    · rw [atKey_put_other h, ih]
      have : (y.toList == x.toList) = false := by
        cases hc : y.toList == x.toList with
        | false => rfl
        | true => exact absurd (keyL_eq.2 hc).symm h
      rw [this]; simp

/-- how many names the map holds -/
def szL (L : List ByteArray) : Nat := Maps.size (setL L)

theorem szL_snoc (L : List ByteArray) (x : ByteArray) : szL (L ++ [x]) = if inL L x then szL L else szL L + 1 := by
  unfold szL
  rw [setL_snoc, size_put (setL_tidy L), has_L]

theorem szL_le (L : List ByteArray) : szL L ≤ L.length := by
  refine snocInd (P := fun L => szL L ≤ L.length) (Nat.le_refl _) ?_ _ L rfl
  intro L x ih
  rw [szL_snoc]
  simp
  split <;> omega

/-- block bm of w is a map into which the names of L were put -/
def OwnsL (w : World) (bm : Nat) (L : List ByteArray) : Prop := w.ownsMap Try.prog 9 (plainElem Try.prog 4) bm L.length (setL L)

theorem law9 : Keyed Try.prog 9 := string_keyed Try.underlying9
theorem zero4 (w : World) : (zeroValue 4).run Try.prog w = .ok (.bool false) w := by kernel_rfl

theorem key9 {x : ByteArray} (hx : x.size ≤ maxLen) : keyOf Try.prog 9 (.string x) = some (keyL x) := WideMaps.keyOf_string_mk Try.underlying9 hx

theorem plainElem_bool_inv {P : Program} {e : TypeId} (he : P.underlying e = some .bool) {v : Value} {z : DataW Unit × List MemPlace} (h : plainElem P e v = some z) : ∃ c, v = .bool c ∧ z = (.lit (.bool c), []) := by
  unfold plainElem at h
  rw [he] at h
  cases v <;> simp at h
  exact ⟨_, rfl, h.symm⟩

theorem litB_inj {a b : Bool} (h : (DataW.lit (.bool a) : DataW Unit) = .lit (.bool b)) : a = b := by
  cases h
  rfl

/-- 'm[x]' in such a map -/
theorem OwnsL.look {w : World} {bm : Nat} {L : List ByteArray} (h : OwnsL w bm L) {x : ByteArray} (hx : x.size ≤ maxLen) :
    (Instr.lookup 39 (.map (some bm)) (.string x) false).run Try.prog w = .ok (.bool (inL L x)) w := by
  obtain ⟨v, ps, hrun, hv⟩ := World.ownsMap.lookup h law9 Try.underlying39 (zero4 w) (plainElem_bool (H := Unit) Try.underlying4 false) (key9 hx)
  obtain ⟨c, rfl, hc⟩ := plainElem_bool_inv Try.underlying4 hv
  rw [atKey_L] at hc
  simp only [Prod.mk.injEq] at hc
  rw [litB_inj hc.1]
  exact hrun

theorem OwnsL.len {w : World} {bm : Nat} {L : List ByteArray} (h : OwnsL w bm L) (ty : TypeId) :
    (Builtin.len_ #[39] ty #[.map (some bm)]).run Try.prog w = .ok (.int .i64 (szL L)) w := World.ownsMap.len h Try.underlying39 ty

theorem OwnsL.made (w : World) : OwnsL (w.alloc (.map #[] 0)) w.heap.size [] := World.ownsMap_made _ _ _ _

theorem OwnsL.of_heap {w w' : World} {bm : Nat} {L : List ByteArray} (h : OwnsL w bm L) (he : w'.heap[bm]? = w.heap[bm]?) : OwnsL w' bm L := by
  obtain ⟨es, clock, hb, r⟩ := h
  exact ⟨es, clock, he.trans hb, r⟩

theorem OwnsL.lt {w : World} {bm : Nat} {L : List ByteArray} (h : OwnsL w bm L) : bm < w.heap.size := World.ownsMap.lt h

theorem OwnsL.kept {S : Nat → Prop} {w w' : World} {bm : Nat} {L : List ByteArray} (h : OwnsL w bm L) (hk : Kept S w w') (hs : ¬ S bm) : OwnsL w' bm L := h.of_heap (hk.block bm h.lt hs)

theorem OwnsL.stored {w1 : World} {bm : Nat} {L : List ByteArray} {x : ByteArray} (h : w1.ownsMap Try.prog 9 (plainElem Try.prog 4) bm (L.length + 1) ((setL L).put (keyL x) (DataW.lit (Lit.bool true)))) : OwnsL w1 bm (L ++ [x]) := by
  unfold OwnsL
  rw [List.length_append, setL_snoc]
  exact h

theorem beqL (a b : ByteArray) : (a.toList == b.toList) = (b.toList == a.toList) := by
  rw [Bool.eq_iff_iff, beq_iff_eq, beq_iff_eq]
  exact ⟨Eq.symm, Eq.symm⟩

theorem inL_same (L : List ByteArray) {x y : ByteArray} (h : (x.toList == y.toList) = true) : inL L x = inL L y := by
  unfold inL
  rw [beq_iff_eq] at h
  rw [h]

theorem inFew_same (f : Nat → ByteArray) (n : Nat) {x y : ByteArray} (h : (x.toList == y.toList) = true) : inFew f n x = inFew f n y := by
  unfold inFew
  rw [beq_iff_eq] at h
  rw [h]


/-- what zzSet hands back -/
def SetPost (w w' : World) (L : List ByteArray) (e : Ending) : Prop := ∃ bm, e = .returned (.map (some bm)) ∧ OwnsL w' bm L ∧ w.heap.size ≤ bm ∧ New w w'

set_option maxHeartbeats 1000000 in
theorem set16 (w : World) (x : Sl) (ss : Nat → ByteArray) (h : StrsAt w x ss) (hl : x.len ≤ 1048576) : Calls Try.prog 16 #[.slice x.oa x.len x.cap] w fun e w' => SetPost w w' (fewL ss x.len) e := by
  have H : Hid (StrsAt w x ss) := h
  have hmm := @run_makeMap Try.prog
  clear h
  go_enter Try.func16, Try.ntmps16
  go_wp2
  go_loopw [8] (fun t wr => ∃ k : Nat, t = .int .i64 k ∧ k ≤ x.len ∧ OwnsL wr w.heap.size (fewL ss k) ∧ New w wr) (fun t _ => x.len - (intOf t).toNat)
  case atStart => exact ⟨0, rfl, Nat.zero_le _, OwnsL.made w, (Kept.refl _ _).alloc _⟩
  case round =>
    obtain ⟨k, rfl, hk, hO, hK⟩ := hrel
    have HK : Hid (New w wr) := hK
    have HO : Hid (OwnsL wr w.heap.size (fewL ss k)) := hO
    clear hO hK
    by_cases hlt : k < x.len
    · have hi := H.out.ok.i43 hlt
      have hc : wr.cell? ⟨x.b, x.o + k, none⟩ = some (.string (ss k)) := HK.out.cell (p := ⟨x.b, x.o + k, none⟩) (fun h => h) (H.out.cell k hlt)
      go_wp2_with (at_mapUpdate; refine wpList_mapUpdate_in _ rfl _ _ _ 39 rfl 9 4 law9 Try.underlying39 _ w.heap.size (fewL ss k).length (setL (fewL ss k)) rfl HO.out (by simp [fewL, maxLen]; omega) _ _ _ rfl rfl (key9 (H.out.small k hlt)) _ [] (plainElem_bool Try.underlying4 true) ?_; intro w1 hown1 hturn1)
      go_roundw
      case rel =>
        refine ⟨k + 1, by go_num, by omega, ?_, HK.out.turned hturn1 (fun h => absurd h (Nat.lt_irrefl _))⟩
        rw [fewL_succ]
        exact OwnsL.stored hown1
      case measure => simp [intOf]; omega
    · have hkl : k = x.len := by omega
      subst hkl
      go_wp2
      go_ret
      exact ⟨w.heap.size, rfl, HO.out, Nat.le_refl _, HK.out⟩

end Go.Proofs.Qxb6601307a
