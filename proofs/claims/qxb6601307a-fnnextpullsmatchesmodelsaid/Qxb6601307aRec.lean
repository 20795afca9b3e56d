/-
  THE WALK of Recovering: of the plan that zzBuild laid.
-/
import Derived.Test.Qxb6601307aBuild
import Derived.Maps.RangeWalk
import Derived.StringKeys
set_option linter.unusedVariables false
namespace Go.Proofs.Qxb6601307a
open Go.RowKit Go.Maps

theorem Kept.grown {S : Nat → Prop} {a w w' : World} {row : Option Nat} (h : Kept S a w) (hg : w.grownBy w' row) (hr : ∀ j, row = some j → j < a.heap.size → S j) : Kept S a w' :=
  ⟨hg.os.trans h.os, hg.tape.trans h.tape, hg.output.trans h.output, Nat.le_trans h.size hg.size, fun k hk hs => (hg.block k (Nat.lt_of_lt_of_le hk h.size) (fun e => hs (hr k e.symm hk))).trans (h.block k hk hs)⟩

abbrev itemV (c : Int × Int × Int × Int) : Value := .agg #[.int .u64 c.1, .int .u64 c.2.1, .int .u64 c.2.2.1, .int .u64 c.2.2.2]

theorem zero95 (w : World) : (zeroValue 95).run Try.prog w = .ok (itemV (0, 0, 0, 0)) w := by kernel_rfl

/-- m is nil or an inner map -/
def Inner (w : World) (m : Option Nat) (k hi : Nat) : Prop := ∀ b, m = some b → b < hi ∧ ∃ D' : DataW Unit, w.ownsMap Try.prog 9 itemElem b k D'

theorem Inner.kept {S : Nat → Prop} {w w' : World} {m : Option Nat} {k hi : Nat} (h : Inner w m k hi) (hk : Kept S w w') (hs : ∀ b, b < hi → ¬ S b) : Inner w' m k hi := fun b hb => by
  obtain ⟨h1, D', h2⟩ := h b hb
  exact ⟨h1, D', owns_kept h2 hk (hs b h1)⟩

theorem MapsIn.get {w : World} {bm k hi : Nat} (h : MapsIn w 47 bm k hi) {f : Int} (hf : (Lit.int .i64 f).wf = true) :
    ∃ m : Option Nat, (Instr.lookup 89 (.map (some bm)) (.int .i64 f) false).run Try.prog w = .ok (.map m) w ∧ Inner w m k hi := by
  obtain ⟨hb0, D, ho, hD⟩ := h
  obtain ⟨v, ps, hrun, hv⟩ := ho.lookup law47 Try.underlying89 (zero91 w) (zd := .nil) (zp := []) rfl (key47 hf)
  obtain ⟨m, rfl, hm⟩ := mapElem_inv hv
  refine ⟨m, hrun, ?_⟩
  rintro b rfl
  rcases hm with ⟨h1, _⟩ | ⟨b', h1, h2⟩
  · cases h1
  · cases h1
    exact hD f b h2

theorem Inner.look {w : World} {m : Option Nat} {k hi : Nat} (h : Inner w m k hi) {x : ByteArray} (hx : x.size ≤ maxLen) :
    ∃ (c : Int × Int × Int × Int) (ok : Bool), (Instr.lookup 91 (.map m) (.string x) true).run Try.prog w = .ok (.tuple #[itemV c, .bool ok]) w := by
  cases m with
  | none => exact ⟨_, false, look_nil true law9 Try.underlying91 (zero95 w) (key9 hx)⟩
  | some b =>
    obtain ⟨_, D', ho⟩ := h b rfl
    obtain ⟨v, ps, hrun, hv⟩ := ho.look_ok law9 Try.underlying91 (zero95 w) (zd := .nil) (zp := []) rfl (key9 hx)
    obtain ⟨c, rfl⟩ := itemElem_inv hv
    exact ⟨c, _, hrun⟩

theorem size_of_has {D : DataW Unit} {k : Lit} (h : Maps.has D k = true) : 0 < Maps.size D := by
  cases D with
  | map es =>
    cases es with
    | nil => simp [Maps.has] at h
    | cons a l => simp [Maps.size]
  | _ => simp [Maps.has] at h

theorem SrcM.len {w : World} {bm k : Nat} {rs : Nat → Src} (h : SrcM w bm k rs) : ∃ n : Nat, (∀ ty, (Builtin.len_ #[96] ty #[.map (some bm)]).run Try.prog w = .ok (.int .i64 n) w) ∧ (0 < k → 0 < n) := by
  obtain ⟨D, ho, hD⟩ := h
  refine ⟨Maps.size D, fun ty => World.ownsMap.len ho Try.underlying96 ty, fun hk => ?_⟩
  refine size_of_has (k := keyL (rs 0).obj) ?_
  rw [hD]
  exact inFew_hit hk (by simp)

/-- x[c:], elements of one cell -/
def Sl.tl (x : Sl) (c : Nat) : Sl := ⟨if x.cap = c then x.oa else x.oa.map (·.add c), x.len - c, x.cap - c, x.b, x.o + c⟩

theorem Sl.Ok.tl {x : Sl} (h : x.Ok) {c : Nat} (hc : c ≤ x.len) : (x.tl c).Ok := by
  have hcap := h.cap
  refine ⟨?_, ?_, ?_⟩
  · intro hl
    have hl' : 0 < x.len - c := hl
    have e := h.addr (by omega)
    show (if x.cap = c then x.oa else x.oa.map (·.add c)) = some ⟨x.b, x.o + c, none⟩
    rw [if_neg (by omega), e]
    show some (Addr.add ⟨x.b, x.o, none⟩ c) = _
    simp only [Addr.add]
    by_cases h0 : c = 0
    · rw [if_pos h0, h0]; rfl
    · rw [if_neg h0]
  · intro hn
    have hn' : (if x.cap = c then x.oa else x.oa.map (·.add c)) = none := hn
    have : x.oa = none := by
      split at hn'
      · exact hn'
      · simpa using hn'
    have := h.nil this
    show x.len - c = 0
    omega
  · show x.len - c ≤ x.cap - c
    omega

theorem tl_run {T : TypeId} (hT : Try.prog.underlying T = some (.slice (Try.prog.elem T))) (hs : ∀ w, (sizeOf (Try.prog.elem T)).run Try.prog w = .ok 1 w) (x : Sl) {c : Nat} (hc : c ≤ x.len) (w : World) :
    (Instr.slice T (.slice x.oa x.len x.cap) (some (.int .i64 c)) none none).run Try.prog w = .ok (.slice (x.tl c).oa (x.tl c).len (x.tl c).cap) w := by
  rw [run_slice_l w T x.oa x.len x.cap hT .i64 c (by omega) (by omega), hs]
  simp only [Result.andThen, sliced, Int.toNat_natCast, Nat.mul_one]
  rfl

theorem IntsAt.tl {w : World} {x : Sl} {xs : Nat → Int} (h : IntsAt w x xs) {c : Nat} (hc : c ≤ x.len) : IntsAt w (x.tl c) (fun k => xs (c + k)) :=
  ⟨h.ok.tl hc, fun k hk => h.wf _ (by have : k < x.len - c := hk; omega), fun k hk => by
    have := h.cell (c + k) (by have : k < x.len - c := hk; omega)
    rw [← Nat.add_assoc] at this
    exact this⟩

theorem StrsAt.tl {w : World} {x : Sl} {xs : Nat → ByteArray} (h : StrsAt w x xs) {c : Nat} (hc : c ≤ x.len) : StrsAt w (x.tl c) (fun k => xs (c + k)) :=
  ⟨h.ok.tl hc, fun k hk => by
    have := h.cell (c + k) (by have : k < x.len - c := hk; omega)
    rw [← Nat.add_assoc] at this
    exact this, fun k hk => h.small _ (by have : k < x.len - c := hk; omega)⟩

/-- what Recovering says -/
def RecPost (w w' : World) (I : Inp) (e : Ending) : Prop := ∃ r, e = .returned (.bool r) ∧ New w w' ∧ (r = false → I.r.len = 0)

set_option maxRecDepth 100000 in
set_option maxHeartbeats 4000000 in
theorem rec38 (w : World) (I : Inp) {bp b1 b2 b3 b5 gm gf hi : Nat} {bq ba : Nat → Nat} (B : Built w I bp b1 b2 b3 b5 gm gf hi bq ba) (hhi : hi ≤ w.heap.size) (h0 : 0 < I.m.len) (hs : I.m.len ≤ 1048576) :
    Calls Try.prog 38 #[.pointer (some ⟨bp, 0, none⟩)] w fun e w' => RecPost w w' I e := by
  have hc2 : w.cell? ⟨bp, 2, none⟩ = some (.map (some b2)) := B.plan.c2
  obtain ⟨n, hlen, hn⟩ := B.src.len
  have HN : Hid (0 < I.r.len → 0 < n) := hn
  have HB : Hid (Built w I bp b1 b2 b3 b5 gm gf hi bq ba) := B
  clear B hn
  by_cases hpos : 0 < n
  · have hpos' : (0 : Int) < n := by omega
    go_enter Try.func38, Try.ntmps38
    go_wp2
    go_ret
    exact ⟨true, rfl, Kept.refl _ _, fun h => by cases h⟩
  · have hn0 : n = 0 := by omega
    have HR : Hid (I.r.len = 0) := by
      cases hh : I.r.len with
      | zero => rfl
      | succ k => exact absurd (HN.out (by omega)) hpos
    subst hn0
    have hc0 : w.cell? ⟨bp, 0, none⟩ = some (.slice (some ⟨gm, 0, none⟩) I.m.len I.m.len) := HB.out.plan.c0
    have hc1 : w.cell? ⟨bp, 1, none⟩ = some (.map (some b1)) := HB.out.plan.c1
    have hi0 : ∀ w, (Instr.indexAt 88 (.slice (some ⟨gm, 0, none⟩) I.m.len I.m.len) (.int .i64 0)).run Try.prog w = .ok (.pointer (some ⟨gm, 0, none⟩)) w := fun w => HB.out.mem.ok.i88 (k := 0) h0 w
    have hx0 : w.cell? ⟨gm, 0, none⟩ = some (.int .i64 (I.mx 0)) := HB.out.mem.cell 0 h0
    obtain ⟨m0, hget0, hin0⟩ := (HB.out.miss.kept ((Kept.refl (fun _ => False) w).drew) (fun _ _ h => h)).get (HB.out.mem.wf 0 h0)
    have HI0 : Hid (Inner w m0 I.s.len hi) := hin0
    have hsl0 : ∀ w, (Instr.slice 88 (.slice (some ⟨gm, 0, none⟩) I.m.len I.m.len) (some (.int .i64 1)) none none).run Try.prog w = .ok (.slice ((newSl gm I.m.len).tl 1).oa ((newSl gm I.m.len).tl 1).len ((newSl gm I.m.len).tl 1).cap) w := fun w => tl_run (T := 88) (by kernel_rfl) sz88 (newSl gm I.m.len) (c := 1) (by show 1 ≤ I.m.len; omega) w
    have hT0 : IntsAt w ((newSl gm I.m.len).tl 1) (fun j => I.mx (1 + j)) := HB.out.mem.tl (c := 1) (by show 1 ≤ I.m.len; omega)
    obtain ⟨T, hT⟩ : ∃ T, T = (newSl gm I.m.len).tl 1 := ⟨_, rfl⟩
    have hTl : T.len = I.m.len - 1 := by rw [hT]; rfl
    rw [← hT] at hsl0 hT0
    have hsl : ∀ w, (Instr.slice 88 (.slice (some ⟨gm, 0, none⟩) I.m.len I.m.len) (some (.int .i64 1)) none none).run Try.prog w = .ok (.slice T.oa T.len T.cap) w := hsl0
    have HT : Hid (IntsAt w T (fun j => I.mx (1 + j))) := hT0
    have HMS : Hid (MapsIn w 47 b1 I.s.len hi) := HB.out.miss
    have hTm : T.len ≤ 1048576 := by omega
    have HW1 : Hid (∀ W, New w W → W.cell? ⟨bp, 1, none⟩ = some (.map (some b1))) := fun W hk => hk.cell (p := ⟨bp, 1, none⟩) (fun h => h) HB.out.plan.c1
    clear hin0 hT hsl0 hT0 hTl HB
    go_enter Try.func38, Try.ntmps38
    go_wp2_with fail
    go_region
    go_wp2_with fail
    go_loopw [32] (fun t wr => ∃ k : Nat, t = .int .i64 k ∧ k ≤ T.len ∧ New w wr) (fun t _ => T.len - (intOf t).toNat)
    case atStart => exact ⟨0, rfl, Nat.zero_le _, (Kept.refl _ _).drew⟩
    case round =>
      obtain ⟨k, rfl, hk, hK⟩ := hrel
      have HK : Hid (New w wr) := hK
      clear hK
      by_cases hlt : k < T.len
      · have HTr : Hid (IntsAt wr T (fun j => I.mx (1 + j))) := HT.out.kept HK.out (fun _ h => h)
        have hix := HTr.out.ok.i88 hlt
        have hcx := HTr.out.cell k hlt
        have hcp := HW1.out wr HK.out
        obtain ⟨m, hget, hin⟩ := (HMS.out.kept HK.out (fun _ _ h => h)).get (HTr.out.wf k hlt)
        have HIN : Hid (Inner wr m I.s.len hi) := hin
        clear hin
        obtain ⟨w1, rfl⟩ : ∃ w1, w1 = wr := ⟨wr, rfl⟩
        cases m with
        | none =>
          have hrg := run_range_nilMap (P := Try.prog) w1 91 9 95 Try.underlying91
          have hnx : ∀ ty, (Instr.next (.pointer (some ⟨w1.heap.size, 0, none⟩)) false ty).run Try.prog (w1.alloc (.mapIter none 0 #[] 0)) = _ := fun ty => run_next_nilMap w1 ty 0 0 #[]
          go_wp2_with fail
          refine wp_loop_rounds 1 ?_
          rw [rounds_succ]
          go_wp2_with fail
          go_roundw
          case rel => exact ⟨k + 1, by go_num, by omega, HK.out.alloc _⟩
          case measure => simp [intOf]; omega
        | some b =>
          obtain ⟨hbhi, D', ho⟩ := HIN.out b rfl
          have HO : Hid (w1.ownsMap Try.prog 9 itemElem b I.s.len D') := ho
          clear ho
          go_wp2_with (at_range; refine wpList_range_own _ rfl _ 91 rfl 9 95 law9 Try.underlying91 _ b I.s.len D' rfl HO.out ?_; intro w0 hrg0 hg0 hs0)
          go_frame
          go_loopw [6] (fun _ wr => ∃ left cnt, wr.ranges Try.prog 9 itemElem b w1.heap.size I.s.len D' left cnt ∧ New w1 wr) (fun _ wr => wr.rangeLeft b w1.heap.size)
          case atStart => exact ⟨_, _, hrg0, (Kept.refl _ _).grown hg0 (fun j h => by cases h)⟩
          case round =>
            obtain ⟨left, cnt, hrg, hK2⟩ := hrel
            have HK2 : Hid (New w1 wr) := hK2
            have HRG : Hid (wr.ranges Try.prog 9 itemElem b w1.heap.size I.s.len D' left cnt) := hrg
            clear hK2 hrg
            go_wp2_with (at_next; refine wpList_next_ranges _ rfl _ rfl 9 law9 itemElem Value.string itemV (fun key kl hkey => by obtain ⟨x, hx, _⟩ := WideMaps.string_of_keyOf Try.underlying9 hkey; exact ⟨x, hx⟩) (fun v y hv => itemElem_inv hv) b w1.heap.size I.s.len D' _ _ rfl HRG.out ?_ ?_)
            · intro hcc hl0
              go_wp2_with fail
              go_roundw
              case rel => exact ⟨k + 1, by go_num, by omega, HK.out.trans HK2.out⟩
              case measure => simp [intOf]; omega
            · intro x ca cb cc cd kl yd yp w2 cnt1 hkey hlx hv hat hrg1 hlt1 hg1 hs1 hen
              have hx : x.size ≤ maxLen := by
                obtain ⟨x', hx', _, h3⟩ := WideMaps.string_of_keyOf Try.underlying9 hkey
                cases hx'
                exact h3
              have k2 : New w1 w2 := HK2.out.grown hg1 (fun j h hj => by cases h; exact absurd hj (Nat.lt_irrefl _))
              have HK3 : Hid (New w1 w2) := k2
              have HRG1 : Hid (w2.ranges Try.prog 9 itemElem b w1.heap.size I.s.len D' (fun z => left z && !z.sameKey kl) cnt1) := hrg1
              obtain ⟨c', ok, hlook⟩ := (HI0.out.kept (HK.out.trans k2) (fun _ _ h => h)).look hx
              clear k2 hrg1 hat hv hlx hkey hg1
              cases ok with
              | false =>
                go_wp2_with fail
                go_ret
                exact ⟨true, rfl, (HK.out.trans HK3.out).alloc _, fun h => by cases h⟩
              | true =>
                go_wp2_with fail
                go_roundw
                case rel => exact ⟨_, cnt1, HRG1.out.alloc _, HK3.out.alloc _⟩
                case measure => rw [(HRG1.out.alloc _).left_eq, HRG.out.left_eq]; exact hlt1
      · go_wp2_with fail
        go_ret
        exact ⟨false, rfl, HK.out, fun _ => HR.out⟩

end Go.Proofs.Qxb6601307a
