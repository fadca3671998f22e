/-
  No cell of these rows narrows 'for every input' (looked for: loops, veiled, ifaces, maps, wideKeys, modest, calm, conditions, laid).
  DERIVED. THE GIVEN ROWS OF THIS SEAT. 1 by the template 'for every input the law returns true; each argument reads behind the call as it read before'; 0 by the template 'total and deterministic' (their statements: Qxb6615570aTotals.lean).
  GIVEN WITH THE SEED: the statements are not yours to turn. If you find one false, say at which input.
  Laid BY PROGRAM, IN A SANDBOX (cutbox-rows.mjs): the forced cells as the released guide's own fill.sh prints them over the translation 3d600c429a7eca50… (all of the seat's roots in one cut). By AI agents, Wed Nov 11 2026. No macro, syntax, notation, axiom, sorry.
-/
import Derived.Test.Qxb6615570aChecked
import GoSem.Claim
import GoSem.ClaimJoined
import GoSem.ClaimMapViews
import Derived.JoinedTies
import Derived.KernelRfl
namespace Go.Proofs.Qxb6615570a
/- THE CELL 'sum', in the pinned program and in every row, IS THE sha256 OF THE DUMP (.gsa) THAT Qxb6615570aProg.lean LOADS. Nothing in Lean hashes anything: it is a label: what it is worth is what the hold of that sum in a sandbox is worth. -/
noncomputable def Try.pinned : Pinned := { name := "qxb6615570a", sum := "3d600c429a7eca504dcfb8225e88a355771d210ec60982a668a696aefb90b5e4", checked := Try.checked }
namespace Rows
def none {H : Type} : Left H := { results := [], args := [] }

/-- 'zzlaws_root_b1.FnAreaQueueLessScanFindsFirstLeastKey': WHATEVER THE INPUT: true; the input reads as it did. -/
def fnAreaQueueLessScanFindsFirstLeastKeySpec : ChangeSpec := { name := "fnAreaQueueLessScanFindsFirstLeastKey", fn := fun _ => fun
  | [d] => { results := [.lit (.bool true)], args := [d] }
  | _ => none }
def fnAreaQueueLessScanFindsFirstLeastKeyRow : OpenClaim := { program := "qxb6615570a", sum := "3d600c429a7eca504dcfb8225e88a355771d210ec60982a668a696aefb90b5e4", func := "example.com/cubecurve/cubecurve/zzlaws_root_b1.FnAreaQueueLessScanFindsFirstLeastKey", spec := "fnAreaQueueLessScanFindsFirstLeastKey", apart := false }
def FnAreaQueueLessScanFindsFirstLeastKeySaid : Prop := fnAreaQueueLessScanFindsFirstLeastKeyRow.holds Try.pinned (OpenSpec.ofChange fnAreaQueueLessScanFindsFirstLeastKeySpec)

/-- ITS FALSE NEIGHBOUR: 'it returns false'. Refute it at one input. -/
def fnAreaQueueLessScanFindsFirstLeastKeyWrong : ChangeSpec := { name := "fnAreaQueueLessScanFindsFirstLeastKey", fn := fun _ => fun
  | [d] => { results := [.lit (.bool false)], args := [d] }
  | _ => none }
def FnAreaQueueLessScanFindsFirstLeastKeyWrongFalsely : Prop := fnAreaQueueLessScanFindsFirstLeastKeyRow.holds Try.pinned (OpenSpec.ofChange fnAreaQueueLessScanFindsFirstLeastKeyWrong)

end Rows
end Go.Proofs.Qxb6615570a
