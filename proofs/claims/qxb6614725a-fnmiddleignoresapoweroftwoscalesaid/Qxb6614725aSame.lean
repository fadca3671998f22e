/-
  WHAT IS KNOWN of the tests at the end of FnMiddleIgnoresAPowerOfTwoScale.
-/
import Derived.Test.Qxb6614725aZt
namespace Go.Proofs.Qxb6614725a
open Go.RowKit

/-- what stands behind the first n statements -/
def behind : Nat → Code → Code
  | 0, c => c
  | n + 1, .seq _ b => behind n b
  | _, c => c
noncomputable def tail1 : Code := behind 8 (Try.f5.body.getD .skip)

/-- the three numbers' signs agree; the length is near 1 -/
structure Ok (x y z s0 s1 s2 p q r d1 dd : Nat) : Prop where
  h1 : Ieee.double.mul x x = some p
  h2 : Ieee.double.mul y y = some q
  h3 : Ieee.double.mul z z = some r
  h4 : Ieee.double.add p q = some d1
  h5 : Ieee.double.add d1 r = some dd
  lo : (FloatKind.f64.format.order dd 4607182418800017318 == some .gt || FloatKind.f64.format.order dd 4607182418800017318 == some .eq) = true
  hi : (FloatKind.f64.format.order dd 4607182418800017453 == some .lt || FloatKind.f64.format.order dd 4607182418800017453 == some .eq) = true
  sx : ∀ W, Calls Try.prog 18 #[.float .f64 s0, .float .f64 x] W fun e w' => e = .returned (.bool true) ∧ w' = W
  sy : ∀ W, Calls Try.prog 18 #[.float .f64 s1, .float .f64 y] W fun e w' => e = .returned (.bool true) ∧ w' = W
  sz : ∀ W, Calls Try.prog 18 #[.float .f64 s2, .float .f64 z] W fun e w' => e = .returned (.bool true) ∧ w' = W

/-- what zzSameFloat is known to say -/
def SameOk (P1 P2 : Nat → Nat → Nat → Prop) : Prop := ∀ x y z x' y' z', P1 x y z → P2 x' y' z' → ∀ W,
  (Calls Try.prog 16 #[.float .f64 x, .float .f64 x'] W fun e w' => e = .returned (.bool true) ∧ w' = W) ∧
  (Calls Try.prog 16 #[.float .f64 y, .float .f64 y'] W fun e w' => e = .returned (.bool true) ∧ w' = W) ∧
  (Calls Try.prog 16 #[.float .f64 z, .float .f64 z'] W fun e w' => e = .returned (.bool true) ∧ w' = W)
end Go.Proofs.Qxb6614725a
