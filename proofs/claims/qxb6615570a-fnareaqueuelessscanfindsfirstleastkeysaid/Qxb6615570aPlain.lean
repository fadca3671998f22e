/-
  THE PLAIN LAW: how floats stand to each other, and a scan for the first least key. No Go in sight.
-/
import Ieee.Arith
namespace Go.Proofs.Qxb6615570a.Plain
open Ieee

/-- A shift by a common amount leaves the comparison as it is. -/
theorem signed_up (s : Bool) (m u c : Nat) : signed s m (u + c) = signed s m u * (2 ^ c : Nat) := by
  unfold signed
  rw [Nat.shiftLeft_eq, Nat.shiftLeft_eq, Nat.pow_add, ← Nat.mul_assoc]
  split
  · rw [Int.natCast_mul, Int.neg_mul]
  · rw [Int.natCast_mul]

theorem compare_mul (a b : Int) (c : Nat) (hc : 0 < c) : compare (a * (c : Int)) (b * (c : Int)) = compare a b := by
  have hc' : (0 : Int) < (c : Int) := by omega
  rcases Int.lt_trichotomy a b with h | h | h
  · rw [Int.compare_eq_lt.2 h, Int.compare_eq_lt.2 (Int.mul_lt_mul_of_pos_right h hc')]
  · rw [h, Int.compare_eq_eq.2 rfl, Int.compare_eq_eq.2 rfl]
  · rw [Int.compare_eq_gt.2 h, Int.compare_eq_gt.2 (Int.mul_lt_mul_of_pos_right h hc')]

theorem order_numbers (s t : Bool) (m n : Nat) (i j B : Int) (hi : B ≤ i) (hj : B ≤ j) :
    (Datum.number s m i).order (Datum.number t n j) = some (compare (signed s m (i - B).toNat) (signed t n (j - B).toNat)) := by
  unfold Datum.order
  simp only
  have e1 : (i - B).toNat = (i - min i j).toNat + (min i j - B).toNat := by omega
  have e2 : (j - B).toNat = (j - min i j).toNat + (min i j - B).toNat := by omega
  rw [e1, e2, signed_up, signed_up, compare_mul _ _ _ (Nat.two_pow_pos _)]

/-- what is not below y lies above all that is below y -/
theorem order_step (x y z : Datum) (hx : x.isNaN = false) (hy : y.isNaN = false) (h1 : x.order y ≠ some .lt) (h2 : z.order y = some .lt) : x.order z = some .gt := by
  cases x with
  | nan _ _ => simp [Datum.isNaN] at hx
  | infinity s =>
    cases y with
    | nan _ _ => simp [Datum.isNaN] at hy
    | infinity t =>
      cases z with
      | nan _ _ => simp [Datum.order] at h2
      | infinity u => cases s <;> cases t <;> cases u <;> simp_all [Datum.order] <;> first | rfl | (revert h1; decide) | (revert h2; decide)
      | number u r k => cases s <;> cases t <;> simp_all [Datum.order] <;> first | rfl | (revert h1; decide)
    | number t n j =>
      cases z with
      | nan _ _ => simp [Datum.order] at h2
      | infinity u => cases s <;> cases u <;> simp_all [Datum.order] <;> rfl
      | number u r k => cases s <;> simp_all [Datum.order]
  | number s m i =>
    cases y with
    | nan _ _ => simp [Datum.isNaN] at hy
    | infinity t =>
      cases z with
      | nan _ _ => simp [Datum.order] at h2
      | infinity u => cases t <;> cases u <;> simp_all [Datum.order] <;> first | rfl | (revert h2; decide)
      | number u r k => cases t <;> simp_all [Datum.order]
    | number t n j =>
      cases z with
      | nan _ _ => simp [Datum.order] at h2
      | infinity u => cases u <;> simp_all [Datum.order]
      | number u r k =>
        obtain ⟨B, b1, b2, b3⟩ : ∃ B : Int, B ≤ i ∧ B ≤ j ∧ B ≤ k := ⟨min i (min j k), by omega, by omega, by omega⟩
        rw [order_numbers s t m n i j B b1 b2] at h1
        rw [order_numbers u t r n k j B b3 b2] at h2
        rw [order_numbers s u m r i k B b1 b3]
        simp only [ne_eq, Option.some.injEq, Int.compare_eq_lt, Int.compare_eq_gt] at h1 h2 ⊢
        omega

theorem nan_order (x y : Datum) (h : x.isNaN = true) : x.order y = none := by
  cases x <;> simp_all [Datum.isNaN, Datum.order]

theorem order_self (x : Datum) (h : x.order x = some .eq) : x.isNaN = false := by
  cases hx : x.isNaN with
  | false => rfl
  | true => rw [nan_order x x hx] at h; cases h

/-- What the scan has found among the first b keys: none is below key m, and those ahead of m are above it. -/
def Found (key : Nat → Nat) (m b : Nat) : Prop :=
  (∀ i, i < b → double.order (key i) (key m) ≠ some .lt) ∧ ∀ i, i < m → double.order (key i) (key m) = some .gt

theorem found_start (key : Nat → Nat) (h : double.order (key 0) (key 0) = some .eq) : Found key 0 1 := by
  refine ⟨fun i hi => ?_, fun i hi => absurd hi (Nat.not_lt_zero _)⟩
  obtain rfl : i = 0 := by omega
  rw [h]; decide

theorem found_new (key : Nat → Nat) (m b : Nat) (hk : ∀ i, i ≤ b → double.order (key i) (key i) = some .eq) (hm : m < b) (h : Found key m b) (hl : double.order (key b) (key m) = some .lt) : Found key b (b + 1) := by
  have up : ∀ i, i < b → double.order (key i) (key b) = some .gt := fun i hi =>
    order_step _ _ _ (order_self _ (hk i (by omega))) (order_self _ (hk m (by omega))) (h.1 i hi) hl
  refine ⟨fun i hi => ?_, up⟩
  by_cases e : i = b
  · subst e; rw [hk i (Nat.le_refl _)]; decide
  · rw [up i (by omega)]; decide

theorem found_old (key : Nat → Nat) (m b : Nat) (h : Found key m b) (hl : double.order (key b) (key m) ≠ some .lt) : Found key m (b + 1) := by
  refine ⟨fun i hi => ?_, h.2⟩
  by_cases e : i = b
  · subst e; exact hl
  · exact h.1 i (by omega)
end Go.Proofs.Qxb6615570a.Plain
