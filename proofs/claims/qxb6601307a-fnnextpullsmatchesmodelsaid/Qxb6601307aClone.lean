/-
  THE WALKS of the clones: zzCloneInts, zzCloneStrings, zzCloneMiss, zzCloneSources, zzCloneUnsent.
-/
import Derived.Test.Qxb6601307aRow
set_option linter.unusedVariables false
namespace Go.Proofs.Qxb6601307a
open Go.RowKit Go.Maps

theorem Row.congr0 {w : World} {g T N K : Nat} {f : Nat → Value} (h : Row w g T N 0 f) (hk : K = 0) : Row w g T N K f := by rw [hk]; exact h

theorem Row.set1 {w : World} {g T N k : Nat} {f : Nat → Value} (h : Row w g T N (k * 1) f) (hk : k < N) {v : Value} (hv : v = f k) : Row (w.setCell ⟨g, k, none⟩ v) g T N ((k + 1) * 1) f := by
  rw [Nat.mul_one] at h ⊢
  exact h.set hk hv

def cI (xs : Nat → Int) : Nat → Value := fun i => .int .i64 (xs i)
def cS (xs : Nat → ByteArray) : Nat → Value := fun i => .string (xs i)

/-- what the clone hands back: the same, in memory of its own -/
def Clo41 (w w' : World) (x : Sl) (xs : Nat → Int) (e : Ending) : Prop :=
  ∃ oa' cap' b', e = .returned (.slice oa' x.len cap') ∧ IntsAt w' ⟨oa', x.len, cap', b', 0⟩ xs ∧ (0 < x.len → w.heap.size ≤ b') ∧ New w w'

set_option maxRecDepth 100000 in
set_option maxHeartbeats 1000000 in
theorem clone41 (w : World) (x : Sl) (xs : Nat → Int) (h : IntsAt w x xs) (hl : x.len ≤ 1048576) : Calls Try.prog 41 #[.slice x.oa x.len x.cap] w fun e w' => Clo41 w w' x xs e := by
  have heq := eqNil 22 Try.underlying22
  have H : Hid (IntsAt w x xs) := h
  clear h
  obtain ⟨oa, len, cap, b, o⟩ := x
  cases oa with
  | none =>
    have h0 : len = 0 := H.out.ok.nil rfl
    subst h0
    go_enter Try.func41, Try.ntmps41
    go_wp2
    go_ret
    exact ⟨none, 0, 0, rfl, ⟨nilSl_ok, fun k hk => absurd hk (Nat.not_lt_zero _), fun k hk => absurd hk (Nat.not_lt_zero _)⟩, fun h => absurd h (Nat.lt_irrefl _), Kept.refl _ _⟩
  | some a =>
    have hmk := fun w => make22 w len hl
    have hl' : len ≤ 1048576 := hl
    clear hl
    go_enter Try.func41, Try.ntmps41
    go_wp2
    go_loopw [12] (fun t wr => ∃ k : Nat, t = .int .i64 k ∧ k ≤ len ∧ Row wr w.heap.size 3 (len * 1) (k * 1) (cI xs) ∧ New w wr) (fun t _ => len - (intOf t).toNat)
    case atStart => exact ⟨0, rfl, Nat.zero_le _, (Row.made w 3 (len * 1) _ (by simp [size_madeCells]) _).congr0 (K := 0 * 1) (Nat.zero_mul _), (Kept.refl _ _).alloc _⟩
    case round =>
      obtain ⟨k, rfl, hk, hR, hK⟩ := hrel
      have HR : Hid (Row wr w.heap.size 3 (len * 1) (k * 1) (cI xs)) := hR
      have HK : Hid (New w wr) := hK
      clear hR hK
      by_cases hlt : k < len
      · have HW : Hid (IntsAt wr ⟨some a, len, cap, b, o⟩ xs) := H.out.kept HK.out (fun _ h => h)
        have hi := HW.out.ok.i22 (k := k) hlt
        have hc0 := HW.out.cell k hlt
        obtain ⟨v0, hn0⟩ := HR.out.cell (i := k) (by omega)
        have hz0 := HR.out.free (k)
        have hlt' : (k : Int) < len := by omega
        go_wp2
        go_roundw
        case rel =>
          refine ⟨k + 1, by go_num, by omega, ?_, (HK.out).setNew (fun h => absurd h (Nat.lt_irrefl _)) _⟩
          exact HR.out.set1 (by omega) rfl
        case measure => simp [intOf]; omega
      · have hkl : k = len := by omega
        subst hkl
        go_wp2
        go_ret
        exact ⟨some ⟨w.heap.size, 0, none⟩, k, w.heap.size, rfl, ⟨newSl_ok _ _, H.out.wf, fun i hi => by rw [Nat.zero_add]; exact HR.out.get (by have : i < k := hi; omega)⟩, fun _ => Nat.le_refl _, HK.out⟩

/-- what the clone hands back: the same, in memory of its own -/
def Clo49 (w w' : World) (x : Sl) (xs : Nat → ByteArray) (e : Ending) : Prop :=
  ∃ oa' cap' b', e = .returned (.slice oa' x.len cap') ∧ StrsAt w' ⟨oa', x.len, cap', b', 0⟩ xs ∧ (0 < x.len → w.heap.size ≤ b') ∧ New w w'

set_option maxRecDepth 100000 in
set_option maxHeartbeats 1000000 in
theorem clone49 (w : World) (x : Sl) (xs : Nat → ByteArray) (h : StrsAt w x xs) (hl : x.len ≤ 1048576) : Calls Try.prog 49 #[.slice x.oa x.len x.cap] w fun e w' => Clo49 w w' x xs e := by
  have heq := eqNil 43 Try.underlying43
  have H : Hid (StrsAt w x xs) := h
  clear h
  obtain ⟨oa, len, cap, b, o⟩ := x
  cases oa with
  | none =>
    have h0 : len = 0 := H.out.ok.nil rfl
    subst h0
    go_enter Try.func49, Try.ntmps49
    go_wp2
    go_ret
    exact ⟨none, 0, 0, rfl, ⟨nilSl_ok, fun k hk => absurd hk (Nat.not_lt_zero _), fun k hk => absurd hk (Nat.not_lt_zero _)⟩, fun h => absurd h (Nat.lt_irrefl _), Kept.refl _ _⟩
  | some a =>
    have hmk := fun w => make43 w len hl
    have hl' : len ≤ 1048576 := hl
    clear hl
    go_enter Try.func49, Try.ntmps49
    go_wp2
    go_loopw [12] (fun t wr => ∃ k : Nat, t = .int .i64 k ∧ k ≤ len ∧ Row wr w.heap.size 9 (len * 1) (k * 1) (cS xs) ∧ New w wr) (fun t _ => len - (intOf t).toNat)
    case atStart => exact ⟨0, rfl, Nat.zero_le _, (Row.made w 9 (len * 1) _ (by simp [size_madeCells]) _).congr0 (K := 0 * 1) (Nat.zero_mul _), (Kept.refl _ _).alloc _⟩
    case round =>
      obtain ⟨k, rfl, hk, hR, hK⟩ := hrel
      have HR : Hid (Row wr w.heap.size 9 (len * 1) (k * 1) (cS xs)) := hR
      have HK : Hid (New w wr) := hK
      clear hR hK
      by_cases hlt : k < len
      · have HW : Hid (StrsAt wr ⟨some a, len, cap, b, o⟩ xs) := H.out.kept HK.out (fun _ h => h)
        have hi := HW.out.ok.i43 (k := k) hlt
        have hc0 := HW.out.cell k hlt
        obtain ⟨v0, hn0⟩ := HR.out.cell (i := k) (by omega)
        have hz0 := HR.out.free (k)
        have hlt' : (k : Int) < len := by omega
        go_wp2
        go_roundw
        case rel =>
          refine ⟨k + 1, by go_num, by omega, ?_, (HK.out).setNew (fun h => absurd h (Nat.lt_irrefl _)) _⟩
          exact HR.out.set1 (by omega) rfl
        case measure => simp [intOf]; omega
      · have hkl : k = len := by omega
        subst hkl
        go_wp2
        go_ret
        exact ⟨some ⟨w.heap.size, 0, none⟩, k, w.heap.size, rfl, ⟨newSl_ok _ _, fun i hi => by rw [Nat.zero_add]; exact HR.out.get (by have : i < k := hi; omega), H.out.small⟩, fun _ => Nat.le_refl _, HK.out⟩

/-- the cells of rows of six, of two -/
def cM (ms : Nat → Miss) : Nat → Value := fun i => match i % 6 with | 0 => .int .i64 (ms (i / 6)).id | 1 => .string (ms (i / 6)).obj | 2 => .int .u64 (ms (i / 6)).a | 3 => .int .u64 (ms (i / 6)).b | 4 => .int .u64 (ms (i / 6)).c | _ => .int .u64 (ms (i / 6)).d
def cR (rs : Nat → Src) : Nat → Value := fun i => match i % 2 with | 0 => .string (rs (i / 2)).obj | _ => .int .i64 (rs (i / 2)).frm
def cU (us : Nat → Uns) : Nat → Value := fun i => match i % 2 with | 0 => .int .i64 (us (i / 2)).id | _ => .string (us (i / 2)).obj

theorem cM0 (ms : Nat → Miss) (k : Nat) : cM ms (k * 6) = .int .i64 (ms k).id := by unfold cM; rw [show k * 6 % 6 = 0 by omega, show k * 6 / 6 = k by omega]; rfl
theorem cM1 (ms : Nat → Miss) (k : Nat) : cM ms (k * 6 + 1) = .string (ms k).obj := by unfold cM; rw [show (k * 6 + 1) % 6 = 1 by omega, show (k * 6 + 1) / 6 = k by omega]; rfl
theorem cM2 (ms : Nat → Miss) (k : Nat) : cM ms (k * 6 + 2) = .int .u64 (ms k).a := by unfold cM; rw [show (k * 6 + 2) % 6 = 2 by omega, show (k * 6 + 2) / 6 = k by omega]; rfl
theorem cM3 (ms : Nat → Miss) (k : Nat) : cM ms (k * 6 + 3) = .int .u64 (ms k).b := by unfold cM; rw [show (k * 6 + 3) % 6 = 3 by omega, show (k * 6 + 3) / 6 = k by omega]; rfl
theorem cM4 (ms : Nat → Miss) (k : Nat) : cM ms (k * 6 + 4) = .int .u64 (ms k).c := by unfold cM; rw [show (k * 6 + 4) % 6 = 4 by omega, show (k * 6 + 4) / 6 = k by omega]; rfl
theorem cM5 (ms : Nat → Miss) (k : Nat) : cM ms (k * 6 + 5) = .int .u64 (ms k).d := by unfold cM; rw [show (k * 6 + 5) % 6 = 5 by omega, show (k * 6 + 5) / 6 = k by omega]; rfl
theorem cR0 (rs : Nat → Src) (k : Nat) : cR rs (k * 2) = .string (rs k).obj := by unfold cR; rw [show k * 2 % 2 = 0 by omega, show k * 2 / 2 = k by omega]; rfl
theorem cR1 (rs : Nat → Src) (k : Nat) : cR rs (k * 2 + 1) = .int .i64 (rs k).frm := by unfold cR; rw [show (k * 2 + 1) % 2 = 1 by omega, show (k * 2 + 1) / 2 = k by omega]; rfl
theorem cU0 (us : Nat → Uns) (k : Nat) : cU us (k * 2) = .int .i64 (us k).id := by unfold cU; rw [show k * 2 % 2 = 0 by omega, show k * 2 / 2 = k by omega]; rfl
theorem cU1 (us : Nat → Uns) (k : Nat) : cU us (k * 2 + 1) = .string (us k).obj := by unfold cU; rw [show (k * 2 + 1) % 2 = 1 by omega, show (k * 2 + 1) / 2 = k by omega]; rfl

theorem make23 (w : World) (n : Nat) (hn : n ≤ 1048576) : (Instr.makeSlice 23 (.int .i64 n) (.int .i64 n)).run Try.prog w = .ok (.slice (some ⟨w.heap.size, 0, none⟩) n n) (w.alloc (.cells (madeCells (Value.agg #[.int .i64 0, .string ByteArray.empty, .int .u64 0, .int .u64 0, .int .u64 0, .int .u64 0]).cells (n * 6)) 76)) := make_run Try.underlying23 (by kernel_rfl) (bytes := 56) (by omega) w n hn
theorem make24 (w : World) (n : Nat) (hn : n ≤ 1048576) : (Instr.makeSlice 24 (.int .i64 n) (.int .i64 n)).run Try.prog w = .ok (.slice (some ⟨w.heap.size, 0, none⟩) n n) (w.alloc (.cells (madeCells (Value.agg #[.string ByteArray.empty, .int .i64 0]).cells (n * 2)) 41)) := make_run Try.underlying24 (by kernel_rfl) (bytes := 24) (by omega) w n hn
theorem make26 (w : World) (n : Nat) (hn : n ≤ 1048576) : (Instr.makeSlice 26 (.int .i64 n) (.int .i64 n)).run Try.prog w = .ok (.slice (some ⟨w.heap.size, 0, none⟩) n n) (w.alloc (.cells (madeCells (Value.agg #[.int .i64 0, .string ByteArray.empty]).cells (n * 2)) 73)) := make_run Try.underlying26 (by kernel_rfl) (bytes := 24) (by omega) w n hn

theorem Row.congrK {w : World} {g T N K K' : Nat} {f : Nat → Value} (h : Row w g T N K f) (hk : K = K') : Row w g T N K' f := by rw [← hk]; exact h

/-- what the clone hands back: the same, in memory of its own -/
def Clo42 (w w' : World) (x : Sl) (xs : Nat → Miss) (e : Ending) : Prop :=
  ∃ oa' cap' b', e = .returned (.slice oa' x.len cap') ∧ MissAt w' ⟨oa', x.len, cap', b', 0⟩ xs ∧ (0 < x.len → w.heap.size ≤ b') ∧ New w w'

set_option maxRecDepth 100000 in
set_option maxHeartbeats 1000000 in
theorem clone42 (w : World) (x : Sl) (xs : Nat → Miss) (h : MissAt w x xs) (hl : x.len ≤ 1048576) : Calls Try.prog 42 #[.slice x.oa x.len x.cap] w fun e w' => Clo42 w w' x xs e := by
  have heq := eqNil 23 Try.underlying23
  have H : Hid (MissAt w x xs) := h
  clear h
  obtain ⟨oa, len, cap, b, o⟩ := x
  cases oa with
  | none =>
    have h0 : len = 0 := H.out.ok.nil rfl
    subst h0
    go_enter Try.func42, Try.ntmps42
    go_wp2
    go_ret
    exact ⟨none, 0, 0, rfl, ⟨nilSl_ok, fun k hk => absurd hk (Nat.not_lt_zero _), fun k hk => absurd hk (Nat.not_lt_zero _), fun k hk => absurd hk (Nat.not_lt_zero _), fun k hk => absurd hk (Nat.not_lt_zero _), fun k hk => absurd hk (Nat.not_lt_zero _), fun k hk => absurd hk (Nat.not_lt_zero _), fun k hk => absurd hk (Nat.not_lt_zero _), fun k hk => absurd hk (Nat.not_lt_zero _)⟩, fun h => absurd h (Nat.lt_irrefl _), Kept.refl _ _⟩
  | some a =>
    have hmk := fun w => make23 w len hl
    have hl' : len ≤ 1048576 := hl
    clear hl
    go_enter Try.func42, Try.ntmps42
    go_wp2
    go_loopw [12] (fun t wr => ∃ k : Nat, t = .int .i64 k ∧ k ≤ len ∧ Row wr w.heap.size 76 (len * 6) (k * 6) (cM xs) ∧ New w wr) (fun t _ => len - (intOf t).toNat)
    case atStart => exact ⟨0, rfl, Nat.zero_le _, (Row.made w 76 (len * 6) _ (by simp [size_madeCells]) _).congr0 (K := 0 * 6) (Nat.zero_mul _), (Kept.refl _ _).alloc _⟩
    case round =>
      obtain ⟨k, rfl, hk, hR, hK⟩ := hrel
      have HR : Hid (Row wr w.heap.size 76 (len * 6) (k * 6) (cM xs)) := hR
      have HK : Hid (New w wr) := hK
      clear hR hK
      by_cases hlt : k < len
      · have HW : Hid (MissAt wr ⟨some a, len, cap, b, o⟩ xs) := H.out.kept HK.out (fun _ h => h)
        have hi := HW.out.ok.i23 (k := k) hlt
        have hc0 := HW.out.c0 k hlt
        obtain ⟨v0, hn0⟩ := HR.out.cell (i := k * 6) (by omega)
        have hz0 := HR.out.free (k * 6)
        have hc1 := HW.out.c1 k hlt
        obtain ⟨v1, hn1⟩ := HR.out.cell (i := k * 6 + 1) (by omega)
        have hz1 := HR.out.free (k * 6 + 1)
        have hc2 := HW.out.c2 k hlt
        obtain ⟨v2, hn2⟩ := HR.out.cell (i := k * 6 + 2) (by omega)
        have hz2 := HR.out.free (k * 6 + 2)
        have hc3 := HW.out.c3 k hlt
        obtain ⟨v3, hn3⟩ := HR.out.cell (i := k * 6 + 3) (by omega)
        have hz3 := HR.out.free (k * 6 + 3)
        have hc4 := HW.out.c4 k hlt
        obtain ⟨v4, hn4⟩ := HR.out.cell (i := k * 6 + 4) (by omega)
        have hz4 := HR.out.free (k * 6 + 4)
        have hc5 := HW.out.c5 k hlt
        obtain ⟨v5, hn5⟩ := HR.out.cell (i := k * 6 + 5) (by omega)
        have hz5 := HR.out.free (k * 6 + 5)
        have hlt' : (k : Int) < len := by omega
        go_wp2
        go_roundw
        case rel =>
          refine ⟨k + 1, by go_num, by omega, ?_, ((((((HK.out).setNew (fun h => absurd h (Nat.lt_irrefl _)) _).setNew (fun h => absurd h (Nat.lt_irrefl _)) _).setNew (fun h => absurd h (Nat.lt_irrefl _)) _).setNew (fun h => absurd h (Nat.lt_irrefl _)) _).setNew (fun h => absurd h (Nat.lt_irrefl _)) _).setNew (fun h => absurd h (Nat.lt_irrefl _)) _⟩
          have r0 := HR.out
          have r1 := r0.set (by omega) (cM0 xs k).symm
          have r2 := r1.set (by omega) (cM1 xs k).symm
          have r3 := r2.set (by omega) (cM2 xs k).symm
          have r4 := r3.set (by omega) (cM3 xs k).symm
          have r5 := r4.set (by omega) (cM4 xs k).symm
          have r6 := r5.set (by omega) (cM5 xs k).symm
          exact r6.congrK (by omega)
        case measure => simp [intOf]; omega
      · have hkl : k = len := by omega
        subst hkl
        go_wp2
        go_ret
        exact ⟨some ⟨w.heap.size, 0, none⟩, k, w.heap.size, rfl, ⟨newSl_ok _ _, H.out.wf, fun i hi => by rw [Nat.zero_add, ← cM0 xs i]; exact HR.out.get (by have : i < k := hi; omega), fun i hi => by rw [Nat.zero_add, ← cM1 xs i]; exact HR.out.get (by have : i < k := hi; omega), fun i hi => by rw [Nat.zero_add, ← cM2 xs i]; exact HR.out.get (by have : i < k := hi; omega), fun i hi => by rw [Nat.zero_add, ← cM3 xs i]; exact HR.out.get (by have : i < k := hi; omega), fun i hi => by rw [Nat.zero_add, ← cM4 xs i]; exact HR.out.get (by have : i < k := hi; omega), fun i hi => by rw [Nat.zero_add, ← cM5 xs i]; exact HR.out.get (by have : i < k := hi; omega), H.out.small⟩, fun _ => Nat.le_refl _, HK.out⟩

/-- what the clone hands back: the same, in memory of its own -/
def Clo43 (w w' : World) (x : Sl) (xs : Nat → Src) (e : Ending) : Prop :=
  ∃ oa' cap' b', e = .returned (.slice oa' x.len cap') ∧ SrcAt w' ⟨oa', x.len, cap', b', 0⟩ xs ∧ (0 < x.len → w.heap.size ≤ b') ∧ New w w'

set_option maxRecDepth 100000 in
set_option maxHeartbeats 1000000 in
theorem clone43 (w : World) (x : Sl) (xs : Nat → Src) (h : SrcAt w x xs) (hl : x.len ≤ 1048576) : Calls Try.prog 43 #[.slice x.oa x.len x.cap] w fun e w' => Clo43 w w' x xs e := by
  have heq := eqNil 24 Try.underlying24
  have H : Hid (SrcAt w x xs) := h
  clear h
  obtain ⟨oa, len, cap, b, o⟩ := x
  cases oa with
  | none =>
    have h0 : len = 0 := H.out.ok.nil rfl
    subst h0
    go_enter Try.func43, Try.ntmps43
    go_wp2
    go_ret
    exact ⟨none, 0, 0, rfl, ⟨nilSl_ok, fun k hk => absurd hk (Nat.not_lt_zero _), fun k hk => absurd hk (Nat.not_lt_zero _), fun k hk => absurd hk (Nat.not_lt_zero _), fun k hk => absurd hk (Nat.not_lt_zero _)⟩, fun h => absurd h (Nat.lt_irrefl _), Kept.refl _ _⟩
  | some a =>
    have hmk := fun w => make24 w len hl
    have hl' : len ≤ 1048576 := hl
    clear hl
    go_enter Try.func43, Try.ntmps43
    go_wp2
    go_loopw [12] (fun t wr => ∃ k : Nat, t = .int .i64 k ∧ k ≤ len ∧ Row wr w.heap.size 41 (len * 2) (k * 2) (cR xs) ∧ New w wr) (fun t _ => len - (intOf t).toNat)
    case atStart => exact ⟨0, rfl, Nat.zero_le _, (Row.made w 41 (len * 2) _ (by simp [size_madeCells]) _).congr0 (K := 0 * 2) (Nat.zero_mul _), (Kept.refl _ _).alloc _⟩
    case round =>
      obtain ⟨k, rfl, hk, hR, hK⟩ := hrel
      have HR : Hid (Row wr w.heap.size 41 (len * 2) (k * 2) (cR xs)) := hR
      have HK : Hid (New w wr) := hK
      clear hR hK
      by_cases hlt : k < len
      · have HW : Hid (SrcAt wr ⟨some a, len, cap, b, o⟩ xs) := H.out.kept HK.out (fun _ h => h)
        have hi := HW.out.ok.i24 (k := k) hlt
        have hc0 := HW.out.c0 k hlt
        obtain ⟨v0, hn0⟩ := HR.out.cell (i := k * 2) (by omega)
        have hz0 := HR.out.free (k * 2)
        have hc1 := HW.out.c1 k hlt
        obtain ⟨v1, hn1⟩ := HR.out.cell (i := k * 2 + 1) (by omega)
        have hz1 := HR.out.free (k * 2 + 1)
        have hlt' : (k : Int) < len := by omega
        go_wp2
        go_roundw
        case rel =>
          refine ⟨k + 1, by go_num, by omega, ?_, ((HK.out).setNew (fun h => absurd h (Nat.lt_irrefl _)) _).setNew (fun h => absurd h (Nat.lt_irrefl _)) _⟩
          have r0 := HR.out
          have r1 := r0.set (by omega) (cR0 xs k).symm
          have r2 := r1.set (by omega) (cR1 xs k).symm
          exact r2.congrK (by omega)
        case measure => simp [intOf]; omega
      · have hkl : k = len := by omega
        subst hkl
        go_wp2
        go_ret
        exact ⟨some ⟨w.heap.size, 0, none⟩, k, w.heap.size, rfl, ⟨newSl_ok _ _, H.out.wf, fun i hi => by rw [Nat.zero_add, ← cR0 xs i]; exact HR.out.get (by have : i < k := hi; omega), fun i hi => by rw [Nat.zero_add, ← cR1 xs i]; exact HR.out.get (by have : i < k := hi; omega), H.out.small⟩, fun _ => Nat.le_refl _, HK.out⟩

/-- what the clone hands back: the same, in memory of its own -/
def Clo45 (w w' : World) (x : Sl) (xs : Nat → Uns) (e : Ending) : Prop :=
  ∃ oa' cap' b', e = .returned (.slice oa' x.len cap') ∧ UnsAt w' ⟨oa', x.len, cap', b', 0⟩ xs ∧ (0 < x.len → w.heap.size ≤ b') ∧ New w w'

set_option maxRecDepth 100000 in
set_option maxHeartbeats 1000000 in
theorem clone45 (w : World) (x : Sl) (xs : Nat → Uns) (h : UnsAt w x xs) (hl : x.len ≤ 1048576) : Calls Try.prog 45 #[.slice x.oa x.len x.cap] w fun e w' => Clo45 w w' x xs e := by
  have heq := eqNil 26 Try.underlying26
  have H : Hid (UnsAt w x xs) := h
  clear h
  obtain ⟨oa, len, cap, b, o⟩ := x
  cases oa with
  | none =>
    have h0 : len = 0 := H.out.ok.nil rfl
    subst h0
    go_enter Try.func45, Try.ntmps45
    go_wp2
    go_ret
    exact ⟨none, 0, 0, rfl, ⟨nilSl_ok, fun k hk => absurd hk (Nat.not_lt_zero _), fun k hk => absurd hk (Nat.not_lt_zero _), fun k hk => absurd hk (Nat.not_lt_zero _), fun k hk => absurd hk (Nat.not_lt_zero _)⟩, fun h => absurd h (Nat.lt_irrefl _), Kept.refl _ _⟩
  | some a =>
    have hmk := fun w => make26 w len hl
    have hl' : len ≤ 1048576 := hl
    clear hl
    go_enter Try.func45, Try.ntmps45
    go_wp2
    go_loopw [12] (fun t wr => ∃ k : Nat, t = .int .i64 k ∧ k ≤ len ∧ Row wr w.heap.size 73 (len * 2) (k * 2) (cU xs) ∧ New w wr) (fun t _ => len - (intOf t).toNat)
    case atStart => exact ⟨0, rfl, Nat.zero_le _, (Row.made w 73 (len * 2) _ (by simp [size_madeCells]) _).congr0 (K := 0 * 2) (Nat.zero_mul _), (Kept.refl _ _).alloc _⟩
    case round =>
      obtain ⟨k, rfl, hk, hR, hK⟩ := hrel
      have HR : Hid (Row wr w.heap.size 73 (len * 2) (k * 2) (cU xs)) := hR
      have HK : Hid (New w wr) := hK
      clear hR hK
      by_cases hlt : k < len
      · have HW : Hid (UnsAt wr ⟨some a, len, cap, b, o⟩ xs) := H.out.kept HK.out (fun _ h => h)
        have hi := HW.out.ok.i26 (k := k) hlt
        have hc0 := HW.out.c0 k hlt
        obtain ⟨v0, hn0⟩ := HR.out.cell (i := k * 2) (by omega)
        have hz0 := HR.out.free (k * 2)
        have hc1 := HW.out.c1 k hlt
        obtain ⟨v1, hn1⟩ := HR.out.cell (i := k * 2 + 1) (by omega)
        have hz1 := HR.out.free (k * 2 + 1)
        have hlt' : (k : Int) < len := by omega
        go_wp2
        go_roundw
        case rel =>
          refine ⟨k + 1, by go_num, by omega, ?_, ((HK.out).setNew (fun h => absurd h (Nat.lt_irrefl _)) _).setNew (fun h => absurd h (Nat.lt_irrefl _)) _⟩
          have r0 := HR.out
          have r1 := r0.set (by omega) (cU0 xs k).symm
          have r2 := r1.set (by omega) (cU1 xs k).symm
          exact r2.congrK (by omega)
        case measure => simp [intOf]; omega
      · have hkl : k = len := by omega
        subst hkl
        go_wp2
        go_ret
        exact ⟨some ⟨w.heap.size, 0, none⟩, k, w.heap.size, rfl, ⟨newSl_ok _ _, H.out.wf, fun i hi => by rw [Nat.zero_add, ← cU0 xs i]; exact HR.out.get (by have : i < k := hi; omega), fun i hi => by rw [Nat.zero_add, ← cU1 xs i]; exact HR.out.get (by have : i < k := hi; omega), H.out.small⟩, fun _ => Nat.le_refl _, HK.out⟩

end Go.Proofs.Qxb6601307a
