/-
  No cell of these rows narrows 'for every input' (looked for: loops, veiled, ifaces, maps, wideKeys, modest, calm, conditions, laid).
  DERIVED. THE GIVEN ROWS OF THIS SEAT. 2 by the template 'for every input the law returns true; each argument reads behind the call as it read before'; 0 by the template 'total and deterministic' (their statements: Qxb6615594aTotals.lean).
  GIVEN WITH THE SEED: the statements are not yours to turn. If you find one false, say at which input.
  Laid BY PROGRAM, IN A SANDBOX (cutbox-rows.mjs): the forced cells as the released guide's own fill.sh prints them over the translation f14f06199aa8f736… (all of the seat's roots in one cut). By AI agents, Wed Nov 11 2026. No macro, syntax, notation, axiom, sorry.
-/
import Derived.Test.Qxb6615594aChecked
import GoSem.Claim
import GoSem.ClaimJoined
import GoSem.ClaimMapViews
import Derived.JoinedTies
import Derived.KernelRfl
namespace Go.Proofs.Qxb6615594a
/- THE CELL 'sum', in the pinned program and in every row, IS THE sha256 OF THE DUMP (.gsa) THAT Qxb6615594aProg.lean LOADS. Nothing in Lean hashes anything: it is a label: what it is worth is what the hold of that sum in a sandbox is worth. -/
noncomputable def Try.pinned : Pinned := { name := "qxb6615594a", sum := "f14f06199aa8f736b30816b698427fcf370d922a2adb4ae91219774b6823f625", checked := Try.checked }
namespace Rows
def none {H : Type} : Left H := { results := [], args := [] }

/-- 'zzlaws_root_b1.FnNewActiveOneCacheLineMore': WHATEVER THE INPUT: true; the input reads as it did. -/
def fnNewActiveOneCacheLineMoreSpec : ChangeSpec := { name := "fnNewActiveOneCacheLineMore", fn := fun _ => fun
  | [d] => { results := [.lit (.bool true)], args := [d] }
  | _ => none }
def fnNewActiveOneCacheLineMoreRow : OpenClaim := { program := "qxb6615594a", sum := "f14f06199aa8f736b30816b698427fcf370d922a2adb4ae91219774b6823f625", func := "example.com/pentimento/pentimento/zzlaws_root_b1.FnNewActiveOneCacheLineMore", spec := "fnNewActiveOneCacheLineMore", apart := false }
def FnNewActiveOneCacheLineMoreSaid : Prop := fnNewActiveOneCacheLineMoreRow.holds Try.pinned (OpenSpec.ofChange fnNewActiveOneCacheLineMoreSpec)

/-- ITS FALSE NEIGHBOUR: 'it returns false'. Refute it at one input. -/
def fnNewActiveOneCacheLineMoreWrong : ChangeSpec := { name := "fnNewActiveOneCacheLineMore", fn := fun _ => fun
  | [d] => { results := [.lit (.bool false)], args := [d] }
  | _ => none }
def FnNewActiveOneCacheLineMoreWrongFalsely : Prop := fnNewActiveOneCacheLineMoreRow.holds Try.pinned (OpenSpec.ofChange fnNewActiveOneCacheLineMoreWrong)

/-- 'zzlaws_root_b1.FnNewActiveSharesRoomExactlyWhenItFits': WHATEVER THE INPUT: true; the input reads as it did. -/
def fnNewActiveSharesRoomExactlyWhenItFitsSpec : ChangeSpec := { name := "fnNewActiveSharesRoomExactlyWhenItFits", fn := fun _ => fun
  | [d1, d2] => { results := [.lit (.bool true)], args := [d1, d2] }
  | _ => none }
def fnNewActiveSharesRoomExactlyWhenItFitsRow : OpenClaim := { program := "qxb6615594a", sum := "f14f06199aa8f736b30816b698427fcf370d922a2adb4ae91219774b6823f625", func := "example.com/pentimento/pentimento/zzlaws_root_b1.FnNewActiveSharesRoomExactlyWhenItFits", spec := "fnNewActiveSharesRoomExactlyWhenItFits", apart := false }
def FnNewActiveSharesRoomExactlyWhenItFitsSaid : Prop := fnNewActiveSharesRoomExactlyWhenItFitsRow.holds Try.pinned (OpenSpec.ofChange fnNewActiveSharesRoomExactlyWhenItFitsSpec)

/-- ITS FALSE NEIGHBOUR: 'it returns false'. Refute it at one input. -/
def fnNewActiveSharesRoomExactlyWhenItFitsWrong : ChangeSpec := { name := "fnNewActiveSharesRoomExactlyWhenItFits", fn := fun _ => fun
  | [d1, d2] => { results := [.lit (.bool false)], args := [d1, d2] }
  | _ => none }
def FnNewActiveSharesRoomExactlyWhenItFitsWrongFalsely : Prop := fnNewActiveSharesRoomExactlyWhenItFitsRow.holds Try.pinned (OpenSpec.ofChange fnNewActiveSharesRoomExactlyWhenItFitsWrong)

end Rows
end Go.Proofs.Qxb6615594a
