/-
  THE WALKS of the laws' own helpers over lists of strings: rsAdd, rsIn, rsCopy; and of ZZNewReadSet, the map off.
-/
import Derived.Test.Qxb6602432aRsWalks
import Derived.Laws.MakeOwn
set_option linter.unusedVariables false
namespace Go.Proofs.Qxb6602432a
open Go.RowKit Go.Maps

/-! ### A slice of strings, as it lies in memory -/

/-- where the k-th string of a slice lies -/
def adr (oa : Option Addr) (k : Nat) : Addr := match oa with | some a => ⟨a.block, a.off + k, none⟩ | none => ⟨0, 0, none⟩

/-- the slice's strings, as they lie in w: nil, empty or neither -/
def StrsAt (w : World) (oa : Option Addr) (len : Nat) (ss : Nat → ByteArray) : Prop :=
  ∀ k, k < len → (∃ a, oa = some a ∧ a.spot = none) ∧ w.cell? (adr oa k) = some (.string (ss k))

theorem StrsAt.cell {w : World} {oa : Option Addr} {len : Nat} {ss : Nat → ByteArray} (h : StrsAt w oa len ss) {k : Nat} (hk : k < len) : w.cell? (adr oa k) = some (.string (ss k)) := (h k hk).2

theorem StrsAt.index {w : World} {oa : Option Addr} {len : Nat} {ss : Nat → ByteArray} (h : StrsAt w oa len ss) {k : Nat} (hk : k < len) (cap : Nat) (w' : World) :
    (Instr.indexAt 25 (.slice oa len cap) (.int .i64 k)).run Try.prog w' = .ok (.pointer (some (adr oa k))) w' := by
  obtain ⟨⟨a, rfl, ha⟩, _⟩ := h k hk
  obtain ⟨ab, ao, sp⟩ := a
  cases ha
  have h25 : Try.prog.underlying 25 = some (.slice (Try.prog.elem 25)) := by kernel_rfl
  have hs : (sizeOf (Try.prog.elem 25)).run Try.prog w' = .ok 1 w' := by kernel_rfl
  rw [run_indexAt_slice _ _ _ _ _ _ _ h25, if_pos (by omega), hs]
  simp only [Result.andThen, adr, Addr.add]
  by_cases hk0 : k = 0
  · subst hk0; rfl
  · rw [if_neg (by simp; omega)]; simp

/-- the block of a slice -/
def blk (oa : Option Addr) : Nat := match oa with | some a => a.block | none => 0

theorem StrsAt.kept {S : Nat → Prop} {w w' : World} {oa : Option Addr} {len : Nat} {ss : Nat → ByteArray} (h : StrsAt w oa len ss) (hk : Kept S w w') (hs : ∀ a, oa = some a → ¬ S a.block) : StrsAt w' oa len ss := by
  intro k hlt
  obtain ⟨⟨a, rfl, ha⟩, hc⟩ := h k hlt
  exact ⟨⟨a, rfl, ha⟩, hk.cell (p := adr (some a) k) (hs a rfl) hc⟩

/-! ### rsAdd -/
theorem rsAdd15 (t l : Int) (w : World) (h0 : 0 ≤ t) (h1 : t ≤ 1048577) (h2 : 0 ≤ l) (h3 : l ≤ 1048576) :
    Calls Try.prog 15 #[.int .i64 t, .int .i64 l] w fun e w' => ∃ z : Int, e = .returned (.int .i64 z) ∧ 0 ≤ z ∧ z ≤ 1048577 ∧ w' = w := by
  by_cases h : t + l ≤ 1048576
  · go_enter Try.func15, Try.ntmps15
    go_wp2
    go_ret
    exact ⟨t + l, rfl, by omega, by omega, rfl⟩
  · go_enter Try.func15, Try.ntmps15
    go_wp2
    go_ret
    exact ⟨1048577, rfl, by omega, by omega, rfl⟩

/-! ### rsIn -/
set_option maxHeartbeats 400000 in
theorem rsIn24 (w : World) (oa : Option Addr) (len cap up : Nat) (ss : Nat → ByteArray) (x : ByteArray) (h : StrsAt w oa len ss) (hup : up ≤ len) (hlen : len ≤ 1048576) :
    Calls Try.prog 24 #[.slice oa len cap, .int .i64 up, .string x] w fun e w' => e = .returned (.bool (inFew ss up x)) ∧ w' = w := by
  have H : Hid (StrsAt w oa len ss) := h
  clear h
  go_enter Try.func24, Try.ntmps24
  go_wp2
  go_loop [7] (fun t => ∃ k : Nat, t = .int .i64 k ∧ k ≤ up ∧ inFew ss k x = false) (fun t => up - (intOf t).toNat)
  case atStart => exact ⟨0, rfl, Nat.zero_le _, rfl⟩
  case round =>
    obtain ⟨k, rfl, hk, hno⟩ := hrel
    have HN : Hid _ := hno
    clear hno
    by_cases hlt : k < up
    · have hi := H.out.index (k := k) (by omega) cap
      have hc := H.out.cell (k := k) (by omega)
      cases hx : (ss k).toList == x.toList with
      | true =>
        have HR : Hid (inFew ss up x = true) := inFew_hit hlt hx
        go_wp2
        go_ret
        exact ⟨by rw [HR.out]; rfl, rfl⟩
      | false =>
        have HR : Hid (inFew ss (k + 1) x = false) := inFew_step HN.out hx
        go_wp2
        go_round
        case rel => exact ⟨k + 1, by go_num, by omega, HR.out⟩
        case measure => simp [intOf]; omega
    · have HR : Hid (inFew ss up x = false) := by
        have : k = up := by omega
        exact this ▸ HN.out
      go_wp2
      go_ret
      exact ⟨by rw [HR.out]; rfl, rfl⟩

/-! ### rsCopy -/
theorem made_strs (n : Nat) : madeCells #[.string ByteArray.empty] n = Array.replicate n (.string ByteArray.empty) := by
  apply Array.ext
  · simp [madeCells]
  · intro i h1 h2
    simp [madeCells, Nat.mod_one]

theorem make25 (w : World) (n : Nat) (hn : n ≤ 1048576) : (Instr.makeSlice 25 (.int .i64 n) (.int .i64 n)).run Try.prog w = .ok (.slice (some ⟨w.heap.size, 0, none⟩) n n) (w.alloc (.cells (Array.replicate n (.string ByteArray.empty)) 9)) := by
  have hinfo : (Try.prog.info? 9).map (fun i => (i.zero, i.size, i.bytes)) = some (some (.string ByteArray.empty), 1, 16) := by kernel_rfl
  cases hi : Try.prog.info? 9 with
  | none => rw [hi] at hinfo; cases hinfo
  | some i =>
    rw [hi] at hinfo
    simp at hinfo
    obtain ⟨hz, hs, hb⟩ := hinfo
    have := run_make (P := Try.prog) w 25 9 i (.string ByteArray.empty) Try.underlying25 hi hz .i64 .i64 n n (by omega) (by omega) (by rw [hb]; omega) (by omega)
    rw [this, hs]
    simp [Value.cells, made_strs]

theorem eqlNil25 (w : World) (oa : Option Addr) (l c : Nat) : (binOp .eql 25 (.slice oa l c) (.slice none 0 0)).run Try.prog w = .ok (.bool oa.isNone) w := by
  have := Lib.run_eql_slice_nil (P := Try.prog) w 25 9 oa l c 0 0 Try.underlying25
  exact this

/-- block g of w is a row of n strings of which the first k are those of ss -/
def RowAt (w : World) (g n k : Nat) (ss : Nat → ByteArray) : Prop := ∃ cur : Array Value, w.heap[g]? = some (.cells cur 9) ∧ cur.size = n ∧ (∀ i, i < n → ∃ s, cur[i]? = some (.string s)) ∧ ∀ i, i < k → cur[i]? = some (.string (ss i))

theorem RowAt.set {w : World} {g n k : Nat} {ss : Nat → ByteArray} (h : RowAt w g n k ss) (hk : k < n) : RowAt (w.setCell ⟨g, k, none⟩ (.string (ss k))) g n (k + 1) ss := by
  obtain ⟨cur, hh, hs, ha, hc⟩ := h
  refine ⟨_, heap_setCell_cells hh _, by simpa using hs, ?_, ?_⟩
  · intro i hi
    rw [Array.getElem?_setIfInBounds]
    split
    · rename_i e; subst e; rw [if_pos (by omega)]; exact ⟨_, rfl⟩
    · exact ha i hi
  · intro i hi
    rw [Array.getElem?_setIfInBounds]
    split
    · rename_i e; subst e; rw [if_pos (by omega)]
    · exact hc i (by omega)

theorem RowAt.cell {w : World} {g n k : Nat} {ss : Nat → ByteArray} (h : RowAt w g n k ss) {i : Nat} (hi : i < n) : ∃ s, w.cell? ⟨g, i, none⟩ = some (.string s) := by
  obtain ⟨cur, hh, hs, ha, hc⟩ := h
  obtain ⟨s, hs⟩ := ha i hi
  exact ⟨s, by simp [World.cell?, hh, hs]⟩

theorem RowAt.free {w : World} {g n k : Nat} {ss : Nat → ByteArray} (h : RowAt w g n k ss) (i : Nat) : w.frozen? ⟨g, i, none⟩ = false := by
  obtain ⟨cur, hh, hs, ha, hc⟩ := h
  simp [World.frozen?, hh]

theorem RowAt.strs {w : World} {g n : Nat} {ss : Nat → ByteArray} (h : RowAt w g n n ss) : StrsAt w (some ⟨g, 0, none⟩) n ss := by
  obtain ⟨cur, hh, hs, ha, hc⟩ := h
  intro k hk
  refine ⟨⟨_, rfl, rfl⟩, ?_⟩
  simp [World.cell?, adr, hh, hc k hk]

theorem RowAt.made (w : World) (n : Nat) (ss : Nat → ByteArray) : RowAt (w.alloc (.cells (Array.replicate n (.string ByteArray.empty)) 9)) w.heap.size n 0 ss :=
  ⟨_, (MapKept.heap_alloc w _).1, by simp, fun i hi => ⟨ByteArray.empty, by simp [hi]⟩, fun i hi => absurd hi (Nat.not_lt_zero _)⟩

/-- what rsCopy hands back: a slice of the same strings, in memory of its own -/
def Copied (w w' : World) (len : Nat) (ss : Nat → ByteArray) (e : Ending) : Prop :=
  ∃ oa' cap', e = .returned (.slice oa' len cap') ∧ StrsAt w' oa' len ss ∧ (∀ a, oa' = some a → a.block = w.heap.size) ∧ (oa' = none → len = 0) ∧ Kept (fun _ => False) w w'

set_option maxHeartbeats 400000 in
theorem rsCopy16 (w : World) (oa : Option Addr) (len cap : Nat) (ss : Nat → ByteArray) (h : StrsAt w oa len ss) (hlen : len ≤ 1048576) (hnil : oa = none → len = 0) :
    Calls Try.prog 16 #[.slice oa len cap] w fun e w' => Copied w w' len ss e := by
  have heq := eqlNil25
  cases hoa : oa with
  | none =>
    have hl0 := hnil hoa
    subst hoa hl0
    clear h
    go_enter Try.func16, Try.ntmps16
    go_wp2
    go_ret
    exact ⟨none, 0, rfl, fun k hk => absurd hk (Nat.not_lt_zero _), fun a ha => (by cases ha), fun _ => rfl, Kept.refl _ _⟩
  | some a =>
    subst hoa
    have H : Hid (StrsAt w (some a) len ss) := h
    have hmk := fun w => make25 w len hlen
    clear h hnil
    go_enter Try.func16, Try.ntmps16
    go_wp2
    go_loopw [4] (fun t wr => ∃ k : Nat, t = .int .i64 k ∧ k ≤ len ∧ RowAt wr w.heap.size len k ss ∧ Kept (fun _ => False) w wr) (fun t _ => len - (intOf t).toNat)
    case atStart => exact ⟨0, rfl, Nat.zero_le _, RowAt.made w len ss, (Kept.refl _ _).alloc _⟩
    case round =>
      obtain ⟨k, rfl, hk, hR, hK⟩ := hrel
      have HR : Hid (RowAt _ w.heap.size len k ss) := hR
      have HK : Hid (Kept (fun _ => False) w _) := hK
      by_cases hlt : k < len
      · have hst := H.out.kept hK (fun _ _ h => h)
        have hi := hst.index (k := k) hlt cap
        have hc := hst.cell (k := k) hlt
        obtain ⟨s0, hc0⟩ := hR.cell hlt
        have hfz := hR.free k
        have hlt' : (k : Int) < len := by omega
        clear hR hK hst
        go_wp2
        go_roundw
        case rel => exact ⟨k + 1, by go_num, by omega, HR.out.set hlt, HK.out.setNew (fun h => absurd h (Nat.lt_irrefl _)) _⟩
        case measure => simp [intOf]; omega
      · have hkl : k = len := by omega
        subst hkl
        clear hR hK
        go_wp2
        go_ret
        exact ⟨some ⟨w.heap.size, 0, none⟩, k, rfl, HR.out.strs, fun a ha => (by cases ha; rfl), fun h => (by cases h), HK.out⟩

/-! ### ZZNewReadSet, the map off -/
theorem RsB.made (w : World) (few : Nat → ByteArray) (n : Int) (m : Option Nat) : RsB (w.alloc (.cells (rsCells few n m) 45)) w.heap.size few n m := (MapKept.heap_alloc w _).1

theorem RsB.made1 (w : World) (o : Obj) (few : Nat → ByteArray) (n : Int) (m : Option Nat) : RsB ((w.alloc o).alloc (.cells (rsCells few n m) 45)) (w.heap.size + 1) few n m := by
  have := RsB.made (w.alloc o) few n m
  rwa [show (w.alloc o).heap.size = w.heap.size + 1 by simp] at this

/-- an array of eight strings, as a value -/
def aggOf (few : Nat → ByteArray) : Value := .agg #[.string (few 0), .string (few 1), .string (few 2), .string (few 3), .string (few 4), .string (few 5), .string (few 6), .string (few 7)]

set_option maxHeartbeats 400000 in
theorem new17_off (w : World) (few : Nat → ByteArray) (n : Int) (v : Value) :
    Calls Try.prog 17 #[aggOf few, .int .i64 n, .bool false, v] w fun e w' => e = .returned (.pointer (some ⟨w.heap.size + 1, 0, none⟩)) ∧ RsB w' (w.heap.size + 1) few n none ∧ w'.heap.size = w.heap.size + 2 ∧ Kept (fun _ => False) w w' := by
  unfold aggOf
  go_enter Try.func17, Try.ntmps17
  go_wp2
  go_ret
  refine ⟨rfl, RsB.made1 _ _ _ _ _, by simp, ((Kept.refl _ _).alloc _).alloc _⟩

/-- what zzBytes says of a list of strings -/
def Small (len : Nat) (ss : Nat → ByteArray) : Prop := len ≤ 1048576 ∧ ∀ k, k < len → (ss k).size ≤ 1048576

def ZzPost (w w' : World) (len : Nat) (ss : Nat → ByteArray) (e : Ending) : Prop := ∃ r, e = .returned (.bool r) ∧ w' = w ∧ (r = true → Small len ss)

theorem zz25 (w : World) (oa : Option Addr) (len cap : Nat) (ss : Nat → ByteArray) (h : StrsAt w oa len ss) (hlm : len ≤ maxLen) (hss : ∀ k, k < len → (ss k).size ≤ maxLen) :
    Calls Try.prog 25 #[.slice oa len cap] w fun e w' => ZzPost w w' len ss e := by
  unfold maxLen at hlm
  have H : Hid (StrsAt w oa len ss) := h
  have HS : Hid (∀ k, k < len → (ss k).size ≤ maxLen) := hss
  clear h hss
  by_cases hl : len ≤ 1048576
  · go_enter Try.func25, Try.ntmps25
    go_wp2
    go_loop [3, 4] (fun z t => ∃ k zn : Nat, t = .int .i64 k ∧ k ≤ len ∧ z = .int .i64 zn ∧ zn ≤ 1048576 ∧ ∀ i, i < k → (ss i).size ≤ 1048576) (fun _ t => len - (intOf t).toNat)
    case atStart => exact ⟨0, len, rfl, Nat.zero_le _, by go_num, hl, fun i hi => absurd hi (Nat.not_lt_zero _)⟩
    case round =>
      obtain ⟨k, zn, rfl, hk, rfl, hzn, ha⟩ := hrel
      have HA : Hid _ := ha
      clear ha
      by_cases hlt : k < len
      · have hi := H.out.index hlt cap
        have hc := H.out.cell hlt
        by_cases h1 : (ss k).size ≤ 1048576
        · by_cases h2 : zn + (ss k).size ≤ 1048576
          · go_wp2
            go_round
            case rel =>
              refine ⟨k + 1, zn + (ss k).size, by go_num, by omega, by go_num, by omega, ?_⟩
              intro i hi
              by_cases hik : i < k
              · exact HA.out i hik
              · have : i = k := by omega
                rw [this]; exact h1
            case measure => simp [intOf]; omega
          · go_wp2
            go_ret
            exact ⟨false, rfl, rfl, fun h => by cases h⟩
        · have hm := HS.out k hlt
          unfold maxLen at hm
          go_wp2
          go_ret
          exact ⟨false, rfl, rfl, fun h => by cases h⟩
      · go_wp2
        go_ret
        exact ⟨true, rfl, rfl, fun _ => ⟨hl, fun i hi => HA.out i (by omega)⟩⟩
  · go_enter Try.func25, Try.ntmps25
    go_wp2
    go_ret
    exact ⟨false, rfl, rfl, fun h => by cases h⟩

def ZzPost2 (w w' : World) (len : Nat) (ss : Nat → ByteArray) (x : ByteArray) (e : Ending) : Prop := ∃ r, e = .returned (.bool r) ∧ w' = w ∧ (r = true → Small len ss ∧ x.size ≤ 1048576)

theorem zz23 (w : World) (oa : Option Addr) (len cap : Nat) (ss : Nat → ByteArray) (x : ByteArray) (h : StrsAt w oa len ss) (hlm : len ≤ maxLen) (hx : x.size ≤ maxLen) (hss : ∀ k, k < len → (ss k).size ≤ maxLen) :
    Calls Try.prog 23 #[.slice oa len cap, .string x] w fun e w' => ZzPost2 w w' len ss x e := by
  unfold maxLen at hlm hx
  have H : Hid (StrsAt w oa len ss) := h
  have HS : Hid (∀ k, k < len → (ss k).size ≤ maxLen) := hss
  clear h hss
  by_cases hl : len ≤ 1048576
  · go_enter Try.func23, Try.ntmps23
    go_wp2
    go_loop [5, 6] (fun z t => ∃ k zn : Nat, t = .int .i64 k ∧ k ≤ len ∧ z = .int .i64 zn ∧ zn ≤ 1048576 ∧ ∀ i, i < k → (ss i).size ≤ 1048576) (fun _ t => len - (intOf t).toNat)
    case atStart => exact ⟨0, len, rfl, Nat.zero_le _, by go_num, hl, fun i hi => absurd hi (Nat.not_lt_zero _)⟩
    case round =>
      obtain ⟨k, zn, rfl, hk, rfl, hzn, ha⟩ := hrel
      have HA : Hid _ := ha
      clear ha
      by_cases hlt : k < len
      · have hi := H.out.index hlt cap
        have hc := H.out.cell hlt
        by_cases h1 : (ss k).size ≤ 1048576
        · by_cases h2 : zn + (ss k).size ≤ 1048576
          · go_wp2
            go_round
            case rel =>
              refine ⟨k + 1, zn + (ss k).size, by go_num, by omega, by go_num, by omega, ?_⟩
              intro i hi
              by_cases hik : i < k
              · exact HA.out i hik
              · have : i = k := by omega
                rw [this]; exact h1
            case measure => simp [intOf]; omega
          · go_wp2
            go_ret
            exact ⟨false, rfl, rfl, fun h => by cases h⟩
        · have hm := HS.out k hlt
          unfold maxLen at hm
          go_wp2
          go_ret
          exact ⟨false, rfl, rfl, fun h => by cases h⟩
      · by_cases h3 : x.size ≤ 1048576
        · by_cases h4 : zn + x.size ≤ 1048576
          · go_wp2
            go_ret
            exact ⟨true, rfl, rfl, fun _ => ⟨⟨hl, fun i hi => HA.out i (by omega)⟩, h3⟩⟩
          · go_wp2
            go_ret
            exact ⟨false, rfl, rfl, fun h => by cases h⟩
        · go_wp2
          go_ret
          exact ⟨false, rfl, rfl, fun h => by cases h⟩
  · go_enter Try.func23, Try.ntmps23
    go_wp2
    go_ret
    exact ⟨false, rfl, rfl, fun h => by cases h⟩

end Go.Proofs.Qxb6602432a
