/-
  No cell of these rows narrows 'for every input' (looked for: loops, veiled, ifaces, maps, wideKeys, modest, calm, conditions, laid).
  DERIVED. THE GIVEN ROWS OF THIS SEAT. 6 by the template 'for every input the law returns true; each argument reads behind the call as it read before'; 0 by the template 'total and deterministic' (their statements: Qxb6602432aTotals.lean).
  GIVEN WITH THE SEED: the statements are not yours to turn. If you find one false, say at which input.
  Laid BY PROGRAM, IN A SANDBOX (cutbox-rows.mjs): the forced cells as the released guide's own fill.sh prints them over the translation 93431ab71956284f… (all of the seat's roots in one cut). By AI agents, Wed Nov 11 2026. No macro, syntax, notation, axiom, sorry.
-/
import Derived.Test.Qxb6602432aChecked
import GoSem.Claim
import GoSem.ClaimJoined
import GoSem.ClaimMapViews
import Derived.JoinedTies
import Derived.KernelRfl
namespace Go.Proofs.Qxb6602432a
/- THE CELL 'sum', in the pinned program and in every row, IS THE sha256 OF THE DUMP (.gsa) THAT Qxb6602432aProg.lean LOADS. Nothing in Lean hashes anything: it is a label: what it is worth is what the hold of that sum in a sandbox is worth. -/
noncomputable def Try.pinned : Pinned := { name := "qxb6602432a", sum := "93431ab71956284fbc11559de6d6523c016b46a653662c41c1b717d9c7d9b7f3", checked := Try.checked }
namespace Rows
def none {H : Type} : Left H := { results := [], args := [] }

/-- 'zzlaws_pkg_tomldoc_b1.FnStringEndMatchesParityModel': WHATEVER THE INPUT: true; the input reads as it did. -/
def fnStringEndMatchesParityModelSpec : ChangeSpec := { name := "fnStringEndMatchesParityModel", fn := fun _ => fun
  | [d1, d2] => { results := [.lit (.bool true)], args := [d1, d2] }
  | _ => none }
def fnStringEndMatchesParityModelRow : OpenClaim := { program := "qxb6602432a", sum := "93431ab71956284fbc11559de6d6523c016b46a653662c41c1b717d9c7d9b7f3", func := "example.com/vestline/vestline/zzlaws_pkg_tomldoc_b1.FnStringEndMatchesParityModel", spec := "fnStringEndMatchesParityModel", apart := false }
def FnStringEndMatchesParityModelSaid : Prop := fnStringEndMatchesParityModelRow.holds Try.pinned (OpenSpec.ofChange fnStringEndMatchesParityModelSpec)

/-- ITS FALSE NEIGHBOUR: 'it returns false'. Refute it at one input. -/
def fnStringEndMatchesParityModelWrong : ChangeSpec := { name := "fnStringEndMatchesParityModel", fn := fun _ => fun
  | [d1, d2] => { results := [.lit (.bool false)], args := [d1, d2] }
  | _ => none }
def FnStringEndMatchesParityModelWrongFalsely : Prop := fnStringEndMatchesParityModelRow.holds Try.pinned (OpenSpec.ofChange fnStringEndMatchesParityModelWrong)

/-- 'zzlaws_pkg_tomldoc_b1.FnStringEndBoundsAndClosingQuote': WHATEVER THE INPUT: true; the input reads as it did. -/
def fnStringEndBoundsAndClosingQuoteSpec : ChangeSpec := { name := "fnStringEndBoundsAndClosingQuote", fn := fun _ => fun
  | [d1, d2] => { results := [.lit (.bool true)], args := [d1, d2] }
  | _ => none }
def fnStringEndBoundsAndClosingQuoteRow : OpenClaim := { program := "qxb6602432a", sum := "93431ab71956284fbc11559de6d6523c016b46a653662c41c1b717d9c7d9b7f3", func := "example.com/vestline/vestline/zzlaws_pkg_tomldoc_b1.FnStringEndBoundsAndClosingQuote", spec := "fnStringEndBoundsAndClosingQuote", apart := false }
def FnStringEndBoundsAndClosingQuoteSaid : Prop := fnStringEndBoundsAndClosingQuoteRow.holds Try.pinned (OpenSpec.ofChange fnStringEndBoundsAndClosingQuoteSpec)

/-- ITS FALSE NEIGHBOUR: 'it returns false'. Refute it at one input. -/
def fnStringEndBoundsAndClosingQuoteWrong : ChangeSpec := { name := "fnStringEndBoundsAndClosingQuote", fn := fun _ => fun
  | [d1, d2] => { results := [.lit (.bool false)], args := [d1, d2] }
  | _ => none }
def FnStringEndBoundsAndClosingQuoteWrongFalsely : Prop := fnStringEndBoundsAndClosingQuoteRow.holds Try.pinned (OpenSpec.ofChange fnStringEndBoundsAndClosingQuoteWrong)

/-- 'zzlaws_pkg_tomldoc_b1.FnStringEndShiftAndCut': WHATEVER THE INPUT: true; the input reads as it did. -/
def fnStringEndShiftAndCutSpec : ChangeSpec := { name := "fnStringEndShiftAndCut", fn := fun _ => fun
  | [d1, d2] => { results := [.lit (.bool true)], args := [d1, d2] }
  | _ => none }
def fnStringEndShiftAndCutRow : OpenClaim := { program := "qxb6602432a", sum := "93431ab71956284fbc11559de6d6523c016b46a653662c41c1b717d9c7d9b7f3", func := "example.com/vestline/vestline/zzlaws_pkg_tomldoc_b1.FnStringEndShiftAndCut", spec := "fnStringEndShiftAndCut", apart := false }
def FnStringEndShiftAndCutSaid : Prop := fnStringEndShiftAndCutRow.holds Try.pinned (OpenSpec.ofChange fnStringEndShiftAndCutSpec)

/-- ITS FALSE NEIGHBOUR: 'it returns false'. Refute it at one input. -/
def fnStringEndShiftAndCutWrong : ChangeSpec := { name := "fnStringEndShiftAndCut", fn := fun _ => fun
  | [d1, d2] => { results := [.lit (.bool false)], args := [d1, d2] }
  | _ => none }
def FnStringEndShiftAndCutWrongFalsely : Prop := fnStringEndShiftAndCutRow.holds Try.pinned (OpenSpec.ofChange fnStringEndShiftAndCutWrong)

/-- 'zzlaws_pkg_tomldoc_b1.FnReadSetAddExact': WHATEVER THE INPUT: true; the input reads as it did. -/
def fnReadSetAddExactSpec : ChangeSpec := { name := "fnReadSetAddExact", fn := fun _ => fun
  | [d1, d2, d3, d4, d5] => { results := [.lit (.bool true)], args := [d1, d2, d3, d4, d5] }
  | _ => none }
def fnReadSetAddExactRow : OpenClaim := { program := "qxb6602432a", sum := "93431ab71956284fbc11559de6d6523c016b46a653662c41c1b717d9c7d9b7f3", func := "example.com/vestline/vestline/zzlaws_pkg_tomldoc_b1.FnReadSetAddExact", spec := "fnReadSetAddExact", apart := false }
def FnReadSetAddExactSaid : Prop := fnReadSetAddExactRow.holds Try.pinned (OpenSpec.ofChange fnReadSetAddExactSpec)

/-- ITS FALSE NEIGHBOUR: 'it returns false'. Refute it at one input. -/
def fnReadSetAddExactWrong : ChangeSpec := { name := "fnReadSetAddExact", fn := fun _ => fun
  | [d1, d2, d3, d4, d5] => { results := [.lit (.bool false)], args := [d1, d2, d3, d4, d5] }
  | _ => none }
def FnReadSetAddExactWrongFalsely : Prop := fnReadSetAddExactRow.holds Try.pinned (OpenSpec.ofChange fnReadSetAddExactWrong)

/-- 'zzlaws_pkg_tomldoc_b1.FnReadSetScriptMatchesListModel': WHATEVER THE INPUT: true; the input reads as it did. -/
def fnReadSetScriptMatchesListModelSpec : ChangeSpec := { name := "fnReadSetScriptMatchesListModel", fn := fun _ => fun
  | [d1, d2] => { results := [.lit (.bool true)], args := [d1, d2] }
  | _ => none }
def fnReadSetScriptMatchesListModelRow : OpenClaim := { program := "qxb6602432a", sum := "93431ab71956284fbc11559de6d6523c016b46a653662c41c1b717d9c7d9b7f3", func := "example.com/vestline/vestline/zzlaws_pkg_tomldoc_b1.FnReadSetScriptMatchesListModel", spec := "fnReadSetScriptMatchesListModel", apart := false }
def FnReadSetScriptMatchesListModelSaid : Prop := fnReadSetScriptMatchesListModelRow.holds Try.pinned (OpenSpec.ofChange fnReadSetScriptMatchesListModelSpec)

/-- ITS FALSE NEIGHBOUR: 'it returns false'. Refute it at one input. -/
def fnReadSetScriptMatchesListModelWrong : ChangeSpec := { name := "fnReadSetScriptMatchesListModel", fn := fun _ => fun
  | [d1, d2] => { results := [.lit (.bool false)], args := [d1, d2] }
  | _ => none }
def FnReadSetScriptMatchesListModelWrongFalsely : Prop := fnReadSetScriptMatchesListModelRow.holds Try.pinned (OpenSpec.ofChange fnReadSetScriptMatchesListModelWrong)

/-- 'zzlaws_pkg_tomldoc_b1.FnReadSetInlineThenMapAndIdempotent': WHATEVER THE INPUT: true; the input reads as it did. -/
def fnReadSetInlineThenMapAndIdempotentSpec : ChangeSpec := { name := "fnReadSetInlineThenMapAndIdempotent", fn := fun _ => fun
  | [d] => { results := [.lit (.bool true)], args := [d] }
  | _ => none }
def fnReadSetInlineThenMapAndIdempotentRow : OpenClaim := { program := "qxb6602432a", sum := "93431ab71956284fbc11559de6d6523c016b46a653662c41c1b717d9c7d9b7f3", func := "example.com/vestline/vestline/zzlaws_pkg_tomldoc_b1.FnReadSetInlineThenMapAndIdempotent", spec := "fnReadSetInlineThenMapAndIdempotent", apart := false }
def FnReadSetInlineThenMapAndIdempotentSaid : Prop := fnReadSetInlineThenMapAndIdempotentRow.holds Try.pinned (OpenSpec.ofChange fnReadSetInlineThenMapAndIdempotentSpec)

/-- ITS FALSE NEIGHBOUR: 'it returns false'. Refute it at one input. -/
def fnReadSetInlineThenMapAndIdempotentWrong : ChangeSpec := { name := "fnReadSetInlineThenMapAndIdempotent", fn := fun _ => fun
  | [d] => { results := [.lit (.bool false)], args := [d] }
  | _ => none }
def FnReadSetInlineThenMapAndIdempotentWrongFalsely : Prop := fnReadSetInlineThenMapAndIdempotentRow.holds Try.pinned (OpenSpec.ofChange fnReadSetInlineThenMapAndIdempotentWrong)

end Rows
end Go.Proofs.Qxb6602432a
