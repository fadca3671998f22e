/-
  FLOATS, PLAINLY (1): double's words over exact whole numbers. The unit is the least place, 2^-1074: a finite float of magnitude m * 2^q units. How a whole number of units is rounded, and that a power of two goes through.
-/
import Ieee.Arith
namespace Go.Proofs.Qxb6614725a.Fl
open Ieee

/-- the word of sign s and magnitude m * 2^q units (m of 53 digits; m = 2^53 stands for 2^52 one place up) -/
def enc (s : Bool) (m q : Nat) : Nat := double.word s (q * 2 ^ 52 + m)

theorem lp : double.leastPlace = -1074 := by decide
theorem bin : double.binade = 4503599627370496 := by decide
theorem inf : double.infRung = 9218868437227405312 := by decide
theorem sw : double.signWeight = 9223372036854775808 := by decide
theorem fb : double.fractionBits = 52 := rfl

theorem read_enc (s : Bool) (m q : Nat) (h1 : 2 ^ 52 ≤ m) (h2 : m < 2 ^ 53) (h3 : q ≤ 2045) : double.read (enc s m q) = .number s m ((q : Int) - 1074) := by
  unfold Format.read enc Format.word
  rw [lp, bin, inf, sw]
  have hr : q * 2 ^ 52 + m < 9218868437227405312 := by omega
  cases s with
  | false =>
    have e1 : (q * 2 ^ 52 + m) / 9223372036854775808 = 0 := by omega
    have e2 : (q * 2 ^ 52 + m) % 9223372036854775808 = q * 2 ^ 52 + m := by omega
    simp only [Bool.false_eq_true, if_false, e1, e2]
    rw [if_neg (by omega), if_pos hr]
    have e3 : 4503599627370496 + (q * 2 ^ 52 + m) % 4503599627370496 = m := by omega
    have e4 : ((q * 2 ^ 52 + m) / 4503599627370496 - 1 : Nat) = q := by omega
    rw [e3, e4]
    have e5 : (-1074 : Int) + (q : Int) = (q : Int) - 1074 := by omega
    rw [e5]; rfl
  | true =>
    have e1 : (9223372036854775808 + (q * 2 ^ 52 + m)) / 9223372036854775808 = 1 := by omega
    have e2 : (9223372036854775808 + (q * 2 ^ 52 + m)) % 9223372036854775808 = q * 2 ^ 52 + m := by omega
    simp only [if_true, e1, e2]
    rw [if_neg (by omega), if_pos hr]
    have e3 : 4503599627370496 + (q * 2 ^ 52 + m) % 4503599627370496 = m := by omega
    have e4 : ((q * 2 ^ 52 + m) / 4503599627370496 - 1 : Nat) = q := by omega
    rw [e3, e4]
    have e5 : (-1074 : Int) + (q : Int) = (q : Int) - 1074 := by omega
    rw [e5]; rfl

theorem read_zero (s : Bool) : double.read (double.word s 0) = .number s 0 (-1074) := by cases s <;> decide

/-! ### Rounding -/
/-- the 53 digits that are kept of M -/
def R (M : Nat) : Nat := Toward.even.cut false (M <<< (52 - M.log2)) (M.log2 - 52)

/-- the rounded number: one more where the rest is above the half, or is the half and the last digit odd -/
def half (M d : Nat) : Nat := M / 2 ^ d + (decide (2 ^ d < 2 * (M % 2 ^ d)) || (2 ^ d == 2 * (M % 2 ^ d) && (M / 2 ^ d) % 2 == 1)).toNat

theorem cut_eq (s : Bool) (n d : Nat) (h : d ≤ n.log2 + 2) : Toward.even.cut s n d = half n d := by
  unfold Toward.cut half
  rw [Nat.min_eq_left h, Nat.shiftLeft_eq, Nat.one_mul]

theorem half_zero (n : Nat) : half n 0 = n := by
  unfold half
  simp [Nat.mod_one]

theorem half_scale (n d c : Nat) : half (n * 2 ^ c) (d + c) = half n d := by
  unfold half
  have hp : 0 < 2 ^ c := Nat.two_pow_pos c
  rw [Nat.pow_add, Nat.mul_div_mul_right _ _ hp, Nat.mul_mod_mul_right]
  have e1 : (2 ^ d * 2 ^ c < 2 * (n % 2 ^ d * 2 ^ c)) ↔ (2 ^ d < 2 * (n % 2 ^ d)) := by
    rw [← Nat.mul_assoc]; exact Nat.mul_lt_mul_right hp
  have e2 : (2 ^ d * 2 ^ c = 2 * (n % 2 ^ d * 2 ^ c)) ↔ (2 ^ d = 2 * (n % 2 ^ d)) := by
    rw [← Nat.mul_assoc]; exact Nat.mul_left_inj (Nat.pos_iff_ne_zero.1 hp)
  have e3 : (2 ^ d * 2 ^ c == 2 * (n % 2 ^ d * 2 ^ c)) = (2 ^ d == 2 * (n % 2 ^ d)) := by
    rw [Bool.eq_iff_iff, beq_iff_eq, beq_iff_eq, e2]
  rw [e3, decide_eq_decide.2 e1]

theorem log2_scale (n c : Nat) (h : n ≠ 0) : (n * 2 ^ c).log2 = n.log2 + c := by
  have hp : 0 < 2 ^ c := Nat.two_pow_pos c
  have hne : n * 2 ^ c ≠ 0 := Nat.mul_ne_zero h (Nat.pos_iff_ne_zero.1 hp)
  apply Nat.le_antisymm
  · have h1 : n < 2 ^ (n.log2 + 1) := Nat.lt_log2_self
    have h2 : n * 2 ^ c < 2 ^ (n.log2 + c + 1) := by
      rw [show n.log2 + c + 1 = (n.log2 + 1) + c by omega, Nat.pow_add _ (n.log2 + 1) c]
      exact Nat.mul_lt_mul_of_pos_right h1 hp
    exact Nat.lt_succ_iff.1 ((Nat.log2_lt hne).2 h2)
  · rw [Nat.le_log2 hne, Nat.pow_add]
    exact Nat.mul_le_mul_right _ (Nat.log2_self_le h)

theorem R_big (M : Nat) (h : 52 ≤ M.log2) : R M = half M (M.log2 - 52) := by
  unfold R
  rw [show 52 - M.log2 = 0 by omega, Nat.shiftLeft_zero, cut_eq _ _ _ (by omega)]

theorem R_small (M : Nat) (h : M.log2 ≤ 52) : R M = M * 2 ^ (52 - M.log2) := by
  unfold R
  rw [show M.log2 - 52 = 0 by omega, Nat.shiftLeft_eq, cut_eq _ _ _ (by omega), half_zero]

theorem R_scale (M c : Nat) (h : M ≠ 0) : R (M * 2 ^ c) = R M := by
  have hl := log2_scale M c h
  by_cases h1 : 52 ≤ M.log2
  · rw [R_big _ (by omega), R_big _ h1, hl, show M.log2 + c - 52 = (M.log2 - 52) + c by omega, half_scale]
  · rw [R_small M (by omega)]
    by_cases h2 : M.log2 + c ≤ 52
    · rw [R_small _ (by omega), hl, Nat.mul_assoc, ← Nat.pow_add]
      congr 2; omega
    · rw [R_big _ (by omega), hl]
      have e : M * 2 ^ c = M * 2 ^ (52 - M.log2) * 2 ^ (M.log2 + c - 52) := by
        rw [Nat.mul_assoc, ← Nat.pow_add]; congr 2; omega
      rw [e]
      have := half_scale (M * 2 ^ (52 - M.log2)) 0 (M.log2 + c - 52)
      rw [Nat.zero_add, half_zero] at this
      exact this

theorem nearest_eq (s : Bool) (M Q : Nat) (h : M ≠ 0) (h52 : 52 ≤ Q + M.log2) :
    double.nearest s M ((Q : Int) - 1074) = double.word s (min ((Q + M.log2 - 52) * 4503599627370496 + R M) 9218868437227405312) := by
  unfold Format.nearest
  rw [if_neg h, lp, bin, inf, fb]
  have e0 : max ((Q : Int) - 1074 + (M.log2 : Int) - ((52 : Nat) : Int)) (-1074) = ((Q + M.log2 - 52 : Nat) : Int) - 1074 := by omega
  simp only [e0]
  have e1 : ((Q : Int) - 1074 - (((Q + M.log2 - 52 : Nat) : Int) - 1074)).toNat = 52 - M.log2 := by omega
  have e2 : ((((Q + M.log2 - 52 : Nat) : Int) - 1074) - ((Q : Int) - 1074)).toNat = M.log2 - 52 := by omega
  have e3 : ((((Q + M.log2 - 52 : Nat) : Int) - 1074) - -1074).toNat = Q + M.log2 - 52 := by omega
  rw [e1, e2, e3]
  rfl

theorem half_bounds (M d : Nat) : 2 * (half M d * 2 ^ d) ≤ 2 * M + 2 ^ d ∧ 2 * M ≤ 2 * (half M d * 2 ^ d) + 2 ^ d := by
  have hp : 0 < 2 ^ d := Nat.two_pow_pos d
  have hm := Nat.mod_lt M hp
  have hd := Nat.div_add_mod M (2 ^ d)
  unfold half
  rw [Nat.add_mul, Nat.mul_comm (M / 2 ^ d) (2 ^ d)]
  generalize hb : (decide (2 ^ d < 2 * (M % 2 ^ d)) || (2 ^ d == 2 * (M % 2 ^ d) && (M / 2 ^ d) % 2 == 1)) = b
  cases b with
  | false =>
    simp only [Bool.or_eq_false_iff, decide_eq_false_iff_not, Bool.and_eq_false_iff, beq_eq_false_iff_ne] at hb
    simp only [Bool.toNat_false, Nat.zero_mul]
    omega
  | true =>
    simp only [Bool.or_eq_true, decide_eq_true_eq, Bool.and_eq_true, beq_iff_eq] at hb
    simp only [Bool.toNat_true, Nat.one_mul]
    omega

theorem half_ge (M d : Nat) : M / 2 ^ d ≤ half M d := by unfold half; omega
theorem half_le (M d : Nat) : half M d ≤ M / 2 ^ d + 1 := by
  unfold half
  generalize (decide (2 ^ d < 2 * (M % 2 ^ d)) || (2 ^ d == 2 * (M % 2 ^ d) && (M / 2 ^ d) % 2 == 1)) = b
  cases b <;> simp
theorem half_exact (M d : Nat) (h : 2 ^ d ∣ M) : half M d * 2 ^ d = M := by
  have hp : 0 < 2 ^ d := Nat.two_pow_pos d
  have h0 : M % 2 ^ d = 0 := Nat.mod_eq_zero_of_dvd h
  have e : half M d = M / 2 ^ d := by
    unfold half
    rw [h0]
    simp
  rw [e]; exact Nat.div_mul_cancel h

theorem R_bounds (N : Nat) (h : 2 ^ 52 ≤ N) : 2 ^ 52 ≤ R N ∧ R N ≤ 2 ^ 53 := by
  have hne : N ≠ 0 := by omega
  have hL : 52 ≤ N.log2 := (Nat.le_log2 hne).2 h
  rw [R_big N hL]
  have h1 : 2 ^ N.log2 ≤ N := Nat.log2_self_le hne
  have h2 : N < 2 ^ (N.log2 + 1) := Nat.lt_log2_self
  have hp : 0 < 2 ^ (N.log2 - 52) := Nat.two_pow_pos _
  have e1 : 2 ^ N.log2 = 2 ^ 52 * 2 ^ (N.log2 - 52) := by rw [← Nat.pow_add]; congr 1; omega
  have e2 : 2 ^ (N.log2 + 1) = 2 ^ 53 * 2 ^ (N.log2 - 52) := by rw [← Nat.pow_add]; congr 1; omega
  have h3 : 2 ^ 52 ≤ N / 2 ^ (N.log2 - 52) := (Nat.le_div_iff_mul_le hp).2 (by rw [← e1]; exact h1)
  have h4 : N / 2 ^ (N.log2 - 52) < 2 ^ 53 := (Nat.div_lt_iff_lt_mul hp).2 (by rw [← e2]; exact h2)
  have := half_ge N (N.log2 - 52)
  have := half_le N (N.log2 - 52)
  omega

/-- the word of N units, rounded -/
def FL (s : Bool) (N : Nat) : Nat := enc s (R N) (N.log2 - 52)
/-- the magnitude of that word, in units -/
def rv (N : Nat) : Nat := R N * 2 ^ (N.log2 - 52)

theorem write_FL (s : Bool) (M Q : Nat) (h : M ≠ 0) (hN : 2 ^ 52 ≤ M * 2 ^ Q) (hu : (M * 2 ^ Q).log2 ≤ 2096) :
    double.write (.number s M ((Q : Int) - 1074)) = FL s (M * 2 ^ Q) := by
  have hl := log2_scale M Q h
  have hne : M * 2 ^ Q ≠ 0 := by omega
  have hL : 52 ≤ (M * 2 ^ Q).log2 := (Nat.le_log2 hne).2 hN
  show double.nearest s M _ = _
  rw [nearest_eq s M Q h (by omega)]
  unfold FL enc
  have hb := R_bounds _ hN
  rw [R_scale M Q h] at hb
  rw [R_scale M Q h, hl]
  rw [Nat.min_eq_left (by omega)]
  exact congrArg (double.word s) (by omega)

/-- a rounded word in its normal form; a power of two goes through -/
theorem FL_form (N : Nat) (h : 2 ^ 52 ≤ N) : ∃ m q, 2 ^ 52 ≤ m ∧ m < 2 ^ 53 ∧ m * 2 ^ q = rv N ∧ N.log2 - 52 ≤ q ∧ q ≤ N.log2 - 51 ∧ ∀ s j, FL s (N * 2 ^ j) = enc s m (q + j) := by
  have hne : N ≠ 0 := by omega
  have hL : 52 ≤ N.log2 := (Nat.le_log2 hne).2 h
  obtain ⟨b1, b2⟩ := R_bounds N h
  by_cases hc : R N < 2 ^ 53
  · refine ⟨R N, N.log2 - 52, b1, hc, rfl, Nat.le_refl _, by omega, fun s j => ?_⟩
    unfold FL
    rw [R_scale N j hne, log2_scale N j hne]
    congr 1; omega
  · have hR : R N = 2 ^ 53 := by omega
    refine ⟨2 ^ 52, N.log2 - 51, Nat.le_refl _, by omega, ?_, by omega, Nat.le_refl _, fun s j => ?_⟩
    · unfold rv
      rw [hR, ← Nat.pow_add, ← Nat.pow_add]; congr 1; omega
    · unfold FL enc
      rw [R_scale N j hne, log2_scale N j hne, hR]
      exact congrArg (double.word s) (by omega)

end Go.Proofs.Qxb6614725a.Fl
