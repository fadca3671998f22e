/-
  No cell of these rows narrows 'for every input' (looked for: loops, veiled, ifaces, maps, wideKeys, modest, calm, conditions, laid).
  DERIVED. THE GIVEN ROWS OF THIS SEAT. 6 by the template 'for every input the law returns true; each argument reads behind the call as it read before'; 0 by the template 'total and deterministic' (their statements: Qxb6614725aTotals.lean).
  GIVEN WITH THE SEED: the statements are not yours to turn. If you find one false, say at which input.
  Laid BY PROGRAM, IN A SANDBOX (cutbox-rows.mjs): the forced cells as the released guide's own fill.sh prints them over the translation 6d52b118d3abac76… (all of the seat's roots in one cut). By AI agents, Wed Nov 11 2026. No macro, syntax, notation, axiom, sorry.
-/
import Derived.Test.Qxb6614725aChecked
import GoSem.Claim
import GoSem.ClaimJoined
import GoSem.ClaimMapViews
import Derived.JoinedTies
import Derived.KernelRfl
namespace Go.Proofs.Qxb6614725a
/- THE CELL 'sum', in the pinned program and in every row, IS THE sha256 OF THE DUMP (.gsa) THAT Qxb6614725aProg.lean LOADS. Nothing in Lean hashes anything: it is a label: what it is worth is what the hold of that sum in a sandbox is worth. -/
noncomputable def Try.pinned : Pinned := { name := "qxb6614725a", sum := "6d52b118d3abac7679bb18c1a7b615000b2062b2583c09ae1dac25cc187bd4c1", checked := Try.checked }
namespace Rows
def none {H : Type} : Left H := { results := [], args := [] }

/-- 'zzlaws_root_b1.FnContainsIsTheAncestorOrder': WHATEVER THE INPUT: true; the input reads as it did. -/
def fnContainsIsTheAncestorOrderSpec : ChangeSpec := { name := "fnContainsIsTheAncestorOrder", fn := fun _ => fun
  | [d1, d2, d3] => { results := [.lit (.bool true)], args := [d1, d2, d3] }
  | _ => none }
def fnContainsIsTheAncestorOrderRow : OpenClaim := { program := "qxb6614725a", sum := "6d52b118d3abac7679bb18c1a7b615000b2062b2583c09ae1dac25cc187bd4c1", func := "example.com/orbcell/orbcell/zzlaws_root_b1.FnContainsIsTheAncestorOrder", spec := "fnContainsIsTheAncestorOrder", apart := false }
def FnContainsIsTheAncestorOrderSaid : Prop := fnContainsIsTheAncestorOrderRow.holds Try.pinned (OpenSpec.ofChange fnContainsIsTheAncestorOrderSpec)

/-- ITS FALSE NEIGHBOUR: 'it returns false'. Refute it at one input. -/
def fnContainsIsTheAncestorOrderWrong : ChangeSpec := { name := "fnContainsIsTheAncestorOrder", fn := fun _ => fun
  | [d1, d2, d3] => { results := [.lit (.bool false)], args := [d1, d2, d3] }
  | _ => none }
def FnContainsIsTheAncestorOrderWrongFalsely : Prop := fnContainsIsTheAncestorOrderRow.holds Try.pinned (OpenSpec.ofChange fnContainsIsTheAncestorOrderWrong)

/-- 'zzlaws_root_b1.FnContainsJudgesACellByItsEndLeaves': WHATEVER THE INPUT: true; the input reads as it did. -/
def fnContainsJudgesACellByItsEndLeavesSpec : ChangeSpec := { name := "fnContainsJudgesACellByItsEndLeaves", fn := fun _ => fun
  | [d1, d2] => { results := [.lit (.bool true)], args := [d1, d2] }
  | _ => none }
def fnContainsJudgesACellByItsEndLeavesRow : OpenClaim := { program := "qxb6614725a", sum := "6d52b118d3abac7679bb18c1a7b615000b2062b2583c09ae1dac25cc187bd4c1", func := "example.com/orbcell/orbcell/zzlaws_root_b1.FnContainsJudgesACellByItsEndLeaves", spec := "fnContainsJudgesACellByItsEndLeaves", apart := false }
def FnContainsJudgesACellByItsEndLeavesSaid : Prop := fnContainsJudgesACellByItsEndLeavesRow.holds Try.pinned (OpenSpec.ofChange fnContainsJudgesACellByItsEndLeavesSpec)

/-- ITS FALSE NEIGHBOUR: 'it returns false'. Refute it at one input. -/
def fnContainsJudgesACellByItsEndLeavesWrong : ChangeSpec := { name := "fnContainsJudgesACellByItsEndLeaves", fn := fun _ => fun
  | [d1, d2] => { results := [.lit (.bool false)], args := [d1, d2] }
  | _ => none }
def FnContainsJudgesACellByItsEndLeavesWrongFalsely : Prop := fnContainsJudgesACellByItsEndLeavesRow.holds Try.pinned (OpenSpec.ofChange fnContainsJudgesACellByItsEndLeavesWrong)

/-- 'zzlaws_root_b1.FnMiddleIgnoresAPowerOfTwoScale': WHATEVER THE INPUT: true; the input reads as it did. -/
def fnMiddleIgnoresAPowerOfTwoScaleSpec : ChangeSpec := { name := "fnMiddleIgnoresAPowerOfTwoScale", fn := fun _ => fun
  | [d1, d2, d3] => { results := [.lit (.bool true)], args := [d1, d2, d3] }
  | _ => none }
def fnMiddleIgnoresAPowerOfTwoScaleRow : OpenClaim := { program := "qxb6614725a", sum := "6d52b118d3abac7679bb18c1a7b615000b2062b2583c09ae1dac25cc187bd4c1", func := "example.com/orbcell/orbcell/zzlaws_root_b1.FnMiddleIgnoresAPowerOfTwoScale", spec := "fnMiddleIgnoresAPowerOfTwoScale", inPlace := ["math.sqrt"], apart := false }
def FnMiddleIgnoresAPowerOfTwoScaleSaid : Prop := fnMiddleIgnoresAPowerOfTwoScaleRow.holds Try.pinned (OpenSpec.ofChange fnMiddleIgnoresAPowerOfTwoScaleSpec)

/-- ITS FALSE NEIGHBOUR: 'it returns false'. Refute it at one input. -/
def fnMiddleIgnoresAPowerOfTwoScaleWrong : ChangeSpec := { name := "fnMiddleIgnoresAPowerOfTwoScale", fn := fun _ => fun
  | [d1, d2, d3] => { results := [.lit (.bool false)], args := [d1, d2, d3] }
  | _ => none }
def FnMiddleIgnoresAPowerOfTwoScaleWrongFalsely : Prop := fnMiddleIgnoresAPowerOfTwoScaleRow.holds Try.pinned (OpenSpec.ofChange fnMiddleIgnoresAPowerOfTwoScaleWrong)

/-- 'zzlaws_root_b1.FnMiddleIsOddAndLiesInsideTheCell': WHATEVER THE INPUT: true; the input reads as it did. -/
def fnMiddleIsOddAndLiesInsideTheCellSpec : ChangeSpec := { name := "fnMiddleIsOddAndLiesInsideTheCell", fn := fun _ => fun
  | [d1, d2] => { results := [.lit (.bool true)], args := [d1, d2] }
  | _ => none }
def fnMiddleIsOddAndLiesInsideTheCellRow : OpenClaim := { program := "qxb6614725a", sum := "6d52b118d3abac7679bb18c1a7b615000b2062b2583c09ae1dac25cc187bd4c1", func := "example.com/orbcell/orbcell/zzlaws_root_b1.FnMiddleIsOddAndLiesInsideTheCell", spec := "fnMiddleIsOddAndLiesInsideTheCell", inPlace := ["math.sqrt"], apart := false }
def FnMiddleIsOddAndLiesInsideTheCellSaid : Prop := fnMiddleIsOddAndLiesInsideTheCellRow.holds Try.pinned (OpenSpec.ofChange fnMiddleIsOddAndLiesInsideTheCellSpec)

/-- ITS FALSE NEIGHBOUR: 'it returns false'. Refute it at one input. -/
def fnMiddleIsOddAndLiesInsideTheCellWrong : ChangeSpec := { name := "fnMiddleIsOddAndLiesInsideTheCell", fn := fun _ => fun
  | [d1, d2] => { results := [.lit (.bool false)], args := [d1, d2] }
  | _ => none }
def FnMiddleIsOddAndLiesInsideTheCellWrongFalsely : Prop := fnMiddleIsOddAndLiesInsideTheCellRow.holds Try.pinned (OpenSpec.ofChange fnMiddleIsOddAndLiesInsideTheCellWrong)

/-- 'zzlaws_root_b1.FnNearEdgesSplitsAndMeetsEndpoints': WHATEVER THE INPUT: true; the input reads as it did. -/
def fnNearEdgesSplitsAndMeetsEndpointsSpec : ChangeSpec := { name := "fnNearEdgesSplitsAndMeetsEndpoints", fn := fun _ => fun
  | [d1, d2, d3, d4, d5] => { results := [.lit (.bool true)], args := [d1, d2, d3, d4, d5] }
  | _ => none }
def fnNearEdgesSplitsAndMeetsEndpointsRow : OpenClaim := { program := "qxb6614725a", sum := "6d52b118d3abac7679bb18c1a7b615000b2062b2583c09ae1dac25cc187bd4c1", func := "example.com/orbcell/orbcell/zzlaws_root_b1.FnNearEdgesSplitsAndMeetsEndpoints", spec := "fnNearEdgesSplitsAndMeetsEndpoints", inPlace := ["math.sqrt", "math.Float64bits", "math.Float64frombits"], apart := false }
def FnNearEdgesSplitsAndMeetsEndpointsSaid : Prop := fnNearEdgesSplitsAndMeetsEndpointsRow.holds Try.pinned (OpenSpec.ofChange fnNearEdgesSplitsAndMeetsEndpointsSpec)

/-- ITS FALSE NEIGHBOUR: 'it returns false'. Refute it at one input. -/
def fnNearEdgesSplitsAndMeetsEndpointsWrong : ChangeSpec := { name := "fnNearEdgesSplitsAndMeetsEndpoints", fn := fun _ => fun
  | [d1, d2, d3, d4, d5] => { results := [.lit (.bool false)], args := [d1, d2, d3, d4, d5] }
  | _ => none }
def FnNearEdgesSplitsAndMeetsEndpointsWrongFalsely : Prop := fnNearEdgesSplitsAndMeetsEndpointsRow.holds Try.pinned (OpenSpec.ofChange fnNearEdgesSplitsAndMeetsEndpointsWrong)

/-- 'zzlaws_root_b1.FnNearEdgesIgnoresWhereTheRingStarts': WHATEVER THE INPUT: true; the input reads as it did. -/
def fnNearEdgesIgnoresWhereTheRingStartsSpec : ChangeSpec := { name := "fnNearEdgesIgnoresWhereTheRingStarts", fn := fun _ => fun
  | [d1, d2, d3, d4, d5] => { results := [.lit (.bool true)], args := [d1, d2, d3, d4, d5] }
  | _ => none }
def fnNearEdgesIgnoresWhereTheRingStartsRow : OpenClaim := { program := "qxb6614725a", sum := "6d52b118d3abac7679bb18c1a7b615000b2062b2583c09ae1dac25cc187bd4c1", func := "example.com/orbcell/orbcell/zzlaws_root_b1.FnNearEdgesIgnoresWhereTheRingStarts", spec := "fnNearEdgesIgnoresWhereTheRingStarts", inPlace := ["math.sqrt", "math.Float64bits", "math.Float64frombits"], apart := false }
def FnNearEdgesIgnoresWhereTheRingStartsSaid : Prop := fnNearEdgesIgnoresWhereTheRingStartsRow.holds Try.pinned (OpenSpec.ofChange fnNearEdgesIgnoresWhereTheRingStartsSpec)

/-- ITS FALSE NEIGHBOUR: 'it returns false'. Refute it at one input. -/
def fnNearEdgesIgnoresWhereTheRingStartsWrong : ChangeSpec := { name := "fnNearEdgesIgnoresWhereTheRingStarts", fn := fun _ => fun
  | [d1, d2, d3, d4, d5] => { results := [.lit (.bool false)], args := [d1, d2, d3, d4, d5] }
  | _ => none }
def FnNearEdgesIgnoresWhereTheRingStartsWrongFalsely : Prop := fnNearEdgesIgnoresWhereTheRingStartsRow.holds Try.pinned (OpenSpec.ofChange fnNearEdgesIgnoresWhereTheRingStartsWrong)

end Rows
end Go.Proofs.Qxb6614725a
