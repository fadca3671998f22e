/-
  No cell of these rows narrows 'for every input' (looked for: loops, veiled, ifaces, maps, wideKeys, modest, calm, conditions, laid).
  DERIVED. THE GIVEN ROWS OF THIS SEAT. 2 by the template 'for every input the law returns true; each argument reads behind the call as it read before'; 0 by the template 'total and deterministic' (their statements: Qxb6615497aTotals.lean).
  GIVEN WITH THE SEED: the statements are not yours to turn. If you find one false, say at which input.
  Laid BY PROGRAM, IN A SANDBOX (cutbox-rows.mjs): the forced cells as the released guide's own fill.sh prints them over the translation fd60e1cdefbf3f66… (all of the seat's roots in one cut). By AI agents, Wed Nov 11 2026. No macro, syntax, notation, axiom, sorry.
-/
import Derived.Test.Qxb6615497aChecked
import GoSem.Claim
import GoSem.ClaimJoined
import GoSem.ClaimMapViews
import Derived.JoinedTies
import Derived.KernelRfl
namespace Go.Proofs.Qxb6615497a
/- THE CELL 'sum', in the pinned program and in every row, IS THE sha256 OF THE DUMP (.gsa) THAT Qxb6615497aProg.lean LOADS. Nothing in Lean hashes anything: it is a label: what it is worth is what the hold of that sum in a sandbox is worth. -/
noncomputable def Try.pinned : Pinned := { name := "qxb6615497a", sum := "fd60e1cdefbf3f669f9b69acefb1dc1cda9d50fe519ec895177af8cb4883debc", checked := Try.checked }
namespace Rows
def none {H : Type} : Left H := { results := [], args := [] }

/-- 'zzlaws_root_b1.FnPopAfterSwapRemovesAt': WHATEVER THE INPUT: true; the input reads as it did. -/
def fnPopAfterSwapRemovesAtSpec : ChangeSpec := { name := "fnPopAfterSwapRemovesAt", fn := fun _ => fun
  | [d1, d2] => { results := [.lit (.bool true)], args := [d1, d2] }
  | _ => none }
def fnPopAfterSwapRemovesAtRow : OpenClaim := { program := "qxb6615497a", sum := "fd60e1cdefbf3f669f9b69acefb1dc1cda9d50fe519ec895177af8cb4883debc", func := "example.com/takt/takt/zzlaws_root_b1.FnPopAfterSwapRemovesAt", spec := "fnPopAfterSwapRemovesAt", apart := false }
def FnPopAfterSwapRemovesAtSaid : Prop := fnPopAfterSwapRemovesAtRow.holds Try.pinned (OpenSpec.ofChange fnPopAfterSwapRemovesAtSpec)

/-- ITS FALSE NEIGHBOUR: 'it returns false'. Refute it at one input. -/
def fnPopAfterSwapRemovesAtWrong : ChangeSpec := { name := "fnPopAfterSwapRemovesAt", fn := fun _ => fun
  | [d1, d2] => { results := [.lit (.bool false)], args := [d1, d2] }
  | _ => none }
def FnPopAfterSwapRemovesAtWrongFalsely : Prop := fnPopAfterSwapRemovesAtRow.holds Try.pinned (OpenSpec.ofChange fnPopAfterSwapRemovesAtWrong)

/-- 'zzlaws_root_b1.FnPopDrainsInReverse': WHATEVER THE INPUT: true; the input reads as it did. -/
def fnPopDrainsInReverseSpec : ChangeSpec := { name := "fnPopDrainsInReverse", fn := fun _ => fun
  | [d] => { results := [.lit (.bool true)], args := [d] }
  | _ => none }
def fnPopDrainsInReverseRow : OpenClaim := { program := "qxb6615497a", sum := "fd60e1cdefbf3f669f9b69acefb1dc1cda9d50fe519ec895177af8cb4883debc", func := "example.com/takt/takt/zzlaws_root_b1.FnPopDrainsInReverse", spec := "fnPopDrainsInReverse", apart := false }
def FnPopDrainsInReverseSaid : Prop := fnPopDrainsInReverseRow.holds Try.pinned (OpenSpec.ofChange fnPopDrainsInReverseSpec)

/-- ITS FALSE NEIGHBOUR: 'it returns false'. Refute it at one input. -/
def fnPopDrainsInReverseWrong : ChangeSpec := { name := "fnPopDrainsInReverse", fn := fun _ => fun
  | [d] => { results := [.lit (.bool false)], args := [d] }
  | _ => none }
def FnPopDrainsInReverseWrongFalsely : Prop := fnPopDrainsInReverseRow.holds Try.pinned (OpenSpec.ofChange fnPopDrainsInReverseWrong)

end Rows
end Go.Proofs.Qxb6615497a
