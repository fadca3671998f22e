/-
  THE WALKS of the vectors' functions: each returns what the plain float operations give; nothing that was there is written.
-/
import Derived.Test.Qxb6614725aRows
import Derived.Test.Qxb6614725aFacts
import Derived.WalkKit
import Derived.WalkSpells
import Derived.WalkLawsBesides
import Derived.Laws.FloatArith
import Derived.Deep.QuietTactic
import Derived.BigQuiet
import Derived.Outline
namespace Go.Proofs.Qxb6614725a
open Go.RowKit

/-- The kit lacks this law: a store of a float. -/
theorem run_store_float (P : Program) (w : World) (a : Addr) (m : Mode) (k : FloatKind) (n : Nat) : (store a (.float k n) m).run P w = stored P w a (.float k n) m := run_store P w a _ m rfl
attribute [local go_sem] run_store_float
/-- .. and this: '-x' of a float. -/
theorem unary_neg_float (n : Nat) : Op.unary .neg (.float .f64 n) = pure (.float .f64 (n ^^^ 2 ^ 63)) := rfl
attribute [local go_sem] unary_neg_float

abbrev F (x : Nat) : Value := .float .f64 x

theorem run_add {x y r : Nat} (h : Ieee.double.add x y = some r) (w : World) : (binOp .add 29 (.float .f64 x) (.float .f64 y)).run Try.prog w = .ok (.float .f64 r) w := run_float_arith w .add 29 .f64 x y r h
theorem run_mul {x y r : Nat} (h : Ieee.double.mul x y = some r) (w : World) : (binOp .mul 29 (.float .f64 x) (.float .f64 y)).run Try.prog w = .ok (.float .f64 r) w := run_float_arith w .mul 29 .f64 x y r h
theorem run_quo {x y r : Nat} (h : Ieee.double.div x y = some r) (w : World) : (binOp .quo 29 (.float .f64 x) (.float .f64 y)).run Try.prog w = .ok (.float .f64 r) w := run_float_arith w .quo 29 .f64 x y r h

/-! ### zzAbs, zzModerate -/
theorem zzAbs_t (x : Nat) (w : World) : Calls Try.prog 31 #[.float .f64 x] w fun e w' => e = .returned (.float .f64 (Fl.absW x)) ∧ w' = w := by
  cases h : (FloatKind.f64.format.order x 0 == some .lt) with
  | true =>
    have e : Fl.absW x = x ^^^ 2 ^ 63 := if_pos h
    rw [e]
    go_enter Try.func31, Try.ntmps31
    go_wp2
    go_ret
    exact ⟨rfl, rfl⟩
  | false =>
    have e : Fl.absW x = x := if_neg (by rw [show Ieee.double.order x 0 = FloatKind.f64.format.order x 0 from rfl, h]; decide)
    rw [e]
    clear e
    go_enter Try.func31, Try.ntmps31
    go_wp2
    go_ret
    exact ⟨rfl, rfl⟩

theorem zzModerate_t (x : Nat) (w : World) : Calls Try.prog 14 #[.float .f64 x] w fun e w' => e = .returned (.bool (Fl.moderate x)) ∧ w' = w := by
  have hm : Fl.moderate x = ((FloatKind.f64.format.order x 0 == some .eq) || ((FloatKind.f64.format.order (Fl.absW x) 3706462493325918208 == some .gt || FloatKind.f64.format.order (Fl.absW x) 3706462493325918208 == some .eq) && (FloatKind.f64.format.order (Fl.absW x) 5507902344274116608 == some .lt || FloatKind.f64.format.order (Fl.absW x) 5507902344274116608 == some .eq))) := rfl
  cases h1 : (FloatKind.f64.format.order x 0 == some .eq) with
  | true =>
    rw [h1, Bool.true_or] at hm
    rw [hm]
    clear hm
    go_enter Try.func14, Try.ntmps14
    go_wp2_with fail
    refine (zzAbs_t x _).mono ?_
    rintro e w' ⟨rfl, rfl⟩
    go_wp2_with fail
    go_ret
    exact ⟨rfl, rfl⟩
  | false =>
    rw [h1, Bool.false_or] at hm
    cases h2 : (FloatKind.f64.format.order (Fl.absW x) 3706462493325918208 == some .gt || FloatKind.f64.format.order (Fl.absW x) 3706462493325918208 == some .eq) with
    | true =>
      rw [h2, Bool.true_and] at hm
      rw [hm]
      clear hm
      go_enter Try.func14, Try.ntmps14
      go_wp2_with fail
      refine (zzAbs_t x _).mono ?_
      rintro e w' ⟨rfl, rfl⟩
      go_wp2_with fail
      go_ret
      exact ⟨rfl, rfl⟩
    | false =>
      rw [h2, Bool.false_and] at hm
      rw [hm]
      clear hm
      go_enter Try.func14, Try.ntmps14
      go_wp2_with fail
      refine (zzAbs_t x _).mono ?_
      rintro e w' ⟨rfl, rfl⟩
      go_wp2_with fail
      go_ret
      exact ⟨rfl, rfl⟩

/-! ### vectors in and out -/
abbrev V3 (x y z : Nat) : Value := .agg #[.float .f64 x, .float .f64 y, .float .f64 z]

theorem zzvec_t (x y z : Nat) (w : World) : Calls Try.prog 36 #[.float .f64 x, .float .f64 y, .float .f64 z] w fun e w' => e = .returned (V3 x y z) ∧ w' = w.alloc (.cells #[.float .f64 x, .float .f64 y, .float .f64 z] 49) := by
  go_enter Try.func36, Try.ntmps36
  go_wp2
  simp [bodyPost, results, Try.results36, go_sem]

theorem vecOf_t (x y z : Nat) (w : World) : Calls Try.prog 24 #[V3 x y z] w fun e w' => e = .returned (V3 x y z) ∧ Below w.heap.size w w' := by
  go_enter Try.func24, Try.ntmps24
  go_wp2_with (go_at_call 36; refine (zzvec_t x y z _).mono ?_; rintro e w' ⟨rfl, rfl⟩)
  simp [bodyPost, results, Try.results24, go_sem]
  exact (((Below.refl _ _).alloc (Nat.le_refl _) _).alloc (by simp) _).alloc (by simp; omega) _

theorem xyz_t (x y z : Nat) (w : World) : Calls Try.prog 32 #[V3 x y z] w fun e w' => e = .returned (.tuple #[.float .f64 x, .float .f64 y, .float .f64 z]) ∧ Below w.heap.size w w' := by
  go_enter Try.func32, Try.ntmps32
  go_wp2
  go_quiet (fail)
  go_wp2
  go_ret3
  exact ⟨rfl, below_drewN ((Below.refl _ _).alloc (Nat.le_refl _) _) _⟩

theorem add_t (x y z a b c p q r : Nat) (h1 : Ieee.double.add x a = some p) (h2 : Ieee.double.add y b = some q) (h3 : Ieee.double.add z c = some r) (w : World) :
    Calls Try.prog 44 #[V3 x y z, V3 a b c] w fun e w' => e = .returned (V3 p q r) ∧ Below w.heap.size w w' := by
  have r1 := run_add h1
  have r2 := run_add h2
  have r3 := run_add h3
  clear h1 h2 h3
  go_enter Try.func44, Try.ntmps44
  go_wp2
  simp [bodyPost, results, Try.results44, go_sem]
  exact (((Below.refl _ _).alloc (Nat.le_refl _) _).alloc (by simp) _).alloc (by simp; omega) _

abbrev B3 (x y z : Nat) : Obj := .cells #[.float .f64 x, .float .f64 y, .float .f64 z] 49

theorem dot_t (x y z p q r d1 d : Nat) (h1 : Ieee.double.mul x x = some p) (h2 : Ieee.double.mul y y = some q) (h3 : Ieee.double.mul z z = some r) (h4 : Ieee.double.add p q = some d1) (h5 : Ieee.double.add d1 r = some d) (w : World) :
    Calls Try.prog 42 #[V3 x y z, V3 x y z] w fun e w' => e = .returned (.float .f64 d) ∧ w' = (w.alloc (B3 x y z)).alloc (B3 x y z) := by
  have r1 := run_mul h1
  have r2 := run_mul h2
  have r3 := run_mul h3
  have r4 := run_add h4
  have r5 := run_add h5
  clear h1 h2 h3 h4 h5
  go_enter Try.func42, Try.ntmps42
  go_wp2
  go_ret
  exact ⟨rfl, rfl⟩

theorem sqrt61 {x r : Nat} (h : Ieee.double.sqrt x = some r) (w : World) : (callFunc 61 #[.float .f64 x]).run Try.prog w = .ok (.value (.float .f64 r)) w := by
  rw [run_callFunc_extern (e := Extern.MathSqrt.sqrt) Try.func61 (by kernel_rfl) (by kernel_rfl) (by kernel_rfl) (by kernel_rfl)]
  have h' : FloatKind.f64.format.sqrt x = some r := h
  have e : Extern.MathSqrt.sqrt #[.float .f64 x] = (match FloatKind.f64.format.sqrt x with | some r => pure (.float .f64 r) | none => do pure (.float .f64 (← choose (.nanBits .f64 x x)))) := rfl
  rw [e, h']
  rfl

theorem sqrt_t (x r : Nat) (h : Ieee.double.sqrt x = some r) (w : World) : Calls Try.prog 57 #[.float .f64 x] w fun e w' => e = .returned (.float .f64 r) ∧ w' = w := by
  have r1 := sqrt61 h
  clear h
  go_enter Try.func57, Try.ntmps57
  go_wp2
  go_ret
  exact ⟨rfl, rfl⟩

theorem norm_t (x y z p q r d1 d n : Nat) (h1 : Ieee.double.mul x x = some p) (h2 : Ieee.double.mul y y = some q) (h3 : Ieee.double.mul z z = some r) (h4 : Ieee.double.add p q = some d1) (h5 : Ieee.double.add d1 r = some d) (h6 : Ieee.double.sqrt d = some n) (w : World) :
    Calls Try.prog 50 #[V3 x y z] w fun e w' => e = .returned (.float .f64 n) ∧ w' = ((w.alloc (B3 x y z)).alloc (B3 x y z)).alloc (B3 x y z) := by
  have Hd := fun W => dot_t x y z p q r d1 d h1 h2 h3 h4 h5 W
  have HD : Hid _ := Hd
  have HS : Hid (Ieee.double.sqrt d = some n) := h6
  clear Hd h1 h2 h3 h4 h5 h6
  go_enter Try.func50, Try.ntmps50
  go_wp2_with (first | (go_at_call 42; refine (HD.out _).mono ?_; rintro e w' ⟨rfl, rfl⟩) | (go_at_call 57; refine (sqrt_t d n HS.out _).mono ?_; rintro e w' ⟨rfl, rfl⟩))
  go_ret
  exact ⟨rfl, rfl⟩

theorem unit_t (x y z p q r d1 d n a b c : Nat) (h1 : Ieee.double.mul x x = some p) (h2 : Ieee.double.mul y y = some q) (h3 : Ieee.double.mul z z = some r) (h4 : Ieee.double.add p q = some d1) (h5 : Ieee.double.add d1 r = some d) (h6 : Ieee.double.sqrt d = some n)
    (k1 : Ieee.double.div x n = some a) (k2 : Ieee.double.div y n = some b) (k3 : Ieee.double.div z n = some c) (w : World) :
    Calls Try.prog 45 #[V3 x y z] w fun e w' => e = .returned (V3 a b c) ∧ Below w.heap.size w w' := by
  have Hd := fun W => norm_t x y z p q r d1 d n h1 h2 h3 h4 h5 h6 W
  have HD : Hid _ := Hd
  have r1 := run_quo k1
  have r2 := run_quo k2
  have r3 := run_quo k3
  clear Hd h1 h2 h3 h4 h5 h6 k1 k2 k3
  go_enter Try.func45, Try.ntmps45
  go_wp2_with (go_at_call 50; refine (HD.out _).mono ?_; rintro e w' ⟨rfl, rfl⟩)
  simp [bodyPost, results, Try.results45, go_sem]
  exact (((((Below.refl _ _).alloc (Nat.le_refl _) _).alloc (by simp) _).alloc (by simp; omega) _).alloc (by simp; omega) _).alloc (by simp; omega) _

/-! ### a quotient that has no answer: some NaN -/
def nanW (w : World) (x y : Nat) : Nat := (Question.nanBits .f64 x y).cut (w.tape w.drawn (.nanBits .f64 x y))

theorem nan_word (t : Nat) : ∃ s rung, 9218868437227405312 < rung ∧ rung < 2 ^ 63 ∧ (t % 2) * 2 ^ 63 + 0x7ff0000000000000 + 1 + (t / 2) % (2 ^ 52 - 1) = Ieee.double.word s rung := by
  refine ⟨decide (t % 2 = 1), 0x7ff0000000000000 + 1 + (t / 2) % (2 ^ 52 - 1), by omega, by omega, ?_⟩
  unfold Ieee.Format.word
  rw [Fl.sw]
  by_cases h : t % 2 = 1
  · simp only [h, decide_true, if_true]; omega
  · have h0 : t % 2 = 0 := by omega
    simp only [h0]; simp

theorem nanW_nan (w : World) (x y z : Nat) : Ieee.double.order (nanW w x y) z = none := by
  obtain ⟨s, rung, h1, h2, h3⟩ := nan_word (w.tape w.drawn (.nanBits .f64 x y))
  have e : nanW w x y = Ieee.double.word s rung := h3
  rw [e]
  have := Fl.read_word s rung h2
  rw [if_neg (by omega), if_neg (by omega), if_neg (by omega)] at this
  exact Fl.order_nan this

theorem run_quo_nan {x y : Nat} (h : Ieee.double.div x y = none) (w : World) : (binOp .quo 29 (.float .f64 x) (.float .f64 y)).run Try.prog w = .ok (.float .f64 (nanW w x y)) w.drew := by
  have h' : FloatKind.f64.format.div x y = none := h
  simp [binOp, Op.floatArith, h']
  rfl

/-- three NaN -/
def Nan3 (a b c : Nat) : Prop := (∀ z, Ieee.double.order a z = none) ∧ (∀ z, Ieee.double.order b z = none) ∧ ∀ z, Ieee.double.order c z = none

theorem unit_nan (x y z p q r d1 d n : Nat) (h1 : Ieee.double.mul x x = some p) (h2 : Ieee.double.mul y y = some q) (h3 : Ieee.double.mul z z = some r) (h4 : Ieee.double.add p q = some d1) (h5 : Ieee.double.add d1 r = some d) (h6 : Ieee.double.sqrt d = some n)
    (k1 : Ieee.double.div x n = none) (k2 : Ieee.double.div y n = none) (k3 : Ieee.double.div z n = none) (w : World) :
    Calls Try.prog 45 #[V3 x y z] w fun e w' => ∃ a b c, e = .returned (V3 a b c) ∧ Nan3 a b c ∧ Below w.heap.size w w' := by
  have Hd := fun W => norm_t x y z p q r d1 d n h1 h2 h3 h4 h5 h6 W
  have HD : Hid _ := Hd
  have r1 := run_quo_nan k1
  have r2 := run_quo_nan k2
  have r3 := run_quo_nan k3
  clear Hd h1 h2 h3 h4 h5 h6 k1 k2 k3
  go_enter Try.func45, Try.ntmps45
  go_wp2_with (go_at_call 50; refine (HD.out _).mono ?_; rintro e w' ⟨rfl, rfl⟩)
  simp [bodyPost, results, Try.results45, go_sem]
  refine ⟨_, _, _, ⟨rfl, rfl, rfl⟩, ⟨nanW_nan _ _ _, nanW_nan _ _ _, nanW_nan _ _ _⟩, ?_⟩
  repeat (first | exact Below.refl _ _ | apply Below.drew | refine Below.alloc ?_ (by simp; try omega) _)

/-! ### the law's own small functions -/
theorem same_eq (x y : Nat) (h : Ieee.double.order x y = some .eq) (w : World) : Calls Try.prog 16 #[.float .f64 x, .float .f64 y] w fun e w' => e = .returned (.bool true) ∧ w' = w := by
  have h1 : (FloatKind.f64.format.order x y == some .eq) = true := by rw [show FloatKind.f64.format.order x y = some .eq from h]; rfl
  clear h
  go_enter Try.func16, Try.ntmps16
  go_wp2
  go_ret
  exact ⟨rfl, rfl⟩

theorem same_nan (x y : Nat) (hx : ∀ z, Ieee.double.order x z = none) (hy : Ieee.double.order y y = none) (w : World) : Calls Try.prog 16 #[.float .f64 x, .float .f64 y] w fun e w' => e = .returned (.bool true) ∧ w' = w := by
  have h1 : (FloatKind.f64.format.order x y == some .eq) = false := by rw [show FloatKind.f64.format.order x y = none from hx y]; rfl
  have h2 : (FloatKind.f64.format.order x x != some .eq) = true := by rw [show FloatKind.f64.format.order x x = none from hx x]; rfl
  have h3 : (FloatKind.f64.format.order y y != some .eq) = true := by rw [show FloatKind.f64.format.order y y = none from hy]; rfl
  clear hx hy
  go_enter Try.func16, Try.ntmps16
  go_wp2
  go_ret
  exact ⟨rfl, rfl⟩

theorem sign_t (x y : Nat) (b c : Bool) (h1 : (Ieee.double.order x 0 == some .gt) = b) (h2 : (Ieee.double.order y 0 == some .gt) = b) (h3 : (Ieee.double.order x 0 == some .lt) = c) (h4 : (Ieee.double.order y 0 == some .lt) = c) (w : World) :
    Calls Try.prog 18 #[.float .f64 x, .float .f64 y] w fun e w' => e = .returned (.bool true) ∧ w' = w := by
  have k1 : (FloatKind.f64.format.order x 0 == some .gt) = b := h1
  have k2 : (FloatKind.f64.format.order y 0 == some .gt) = b := h2
  have k3 : (FloatKind.f64.format.order x 0 == some .lt) = c := h3
  have k4 : (FloatKind.f64.format.order y 0 == some .lt) = c := h4
  clear h1 h2 h3 h4
  go_enter Try.func18, Try.ntmps18
  go_wp2
  go_ret
  exact ⟨rfl, rfl⟩

theorem zzDot_t (x y z p q r d1 d : Nat) (h1 : Ieee.double.mul x x = some p) (h2 : Ieee.double.mul y y = some q) (h3 : Ieee.double.mul z z = some r) (h4 : Ieee.double.add p q = some d1) (h5 : Ieee.double.add d1 r = some d) (w : World) :
    Calls Try.prog 17 #[V3 x y z, V3 x y z] w fun e w' => e = .returned (.float .f64 d) ∧ Below w.heap.size w w' := by
  have r1 := run_mul h1
  have r2 := run_mul h2
  have r3 := run_mul h3
  have r4 := run_add h4
  have r5 := run_add h5
  clear h1 h2 h3 h4 h5
  go_enter Try.func17, Try.ntmps17
  go_wp2
  go_ret
  exact ⟨rfl, ((Below.refl _ _).alloc (Nat.le_refl _) _).alloc (by simp) _⟩
end Go.Proofs.Qxb6614725a
