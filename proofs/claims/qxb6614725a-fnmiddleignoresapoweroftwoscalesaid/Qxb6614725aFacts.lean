/-
  FLOATS, PLAINLY (6): what the law's own tests say: moderate corners; the scale's factor; signs; the length's bounds.
-/
import Derived.Test.Qxb6614725aUnit
namespace Go.Proofs.Qxb6614725a.Fl
open Ieee
set_option exponentiation.threshold 5000

/-! ### the order of words at a scale -/
theorem word00 : double.word false 0 = 0 := rfl

theorem ord_zero (f : Fp) (hf : f.good) (j : Nat) (hj : f.m ≠ 0 → f.q + j ≤ 2045) :
    double.order (f.wd j) 0 = some (if f.m = 0 then .eq else if f.s then .lt else .gt) := by
  obtain ⟨r, a1, a2, _⟩ := f.rd hf j hj
  have := order_eq a1 (rd_zero false)
  rw [word00] at this
  rw [this, a2, Nat.zero_mul]
  congr 1
  by_cases h : f.m = 0
  · rw [if_pos h, Fp.v_zero h, Nat.zero_mul]
    unfold sv
    split <;> rfl
  · rw [if_neg h]
    have hp : 0 < f.v * 2 ^ j := Nat.mul_pos (Fp.v_pos h) (Nat.two_pow_pos _)
    generalize f.v * 2 ^ j = V at *
    unfold sv
    cases f.s with
    | true => simp only [if_true]; rw [Int.compare_eq_lt]; simp; omega
    | false => simp only [Bool.false_eq_true, if_false]; rw [Int.compare_eq_gt]; simp; omega

theorem ord_self (f : Fp) (hf : f.good) (j : Nat) (hj : f.m ≠ 0 → f.q + j ≤ 2045) : double.order (f.wd j) (f.wd j) = some .eq := by
  obtain ⟨r, a1, _, _⟩ := f.rd hf j hj
  rw [order_eq a1 a1, Int.compare_eq_eq.2 rfl]

/-- the lower and the upper bound on the length -/
theorem ord_len (f : Fp) (hf : f.good) (hs : f.s = false) (hv : f.v < 2 ^ 1081) (hn : Near 14 (2 ^ 1074) f.v) :
    (double.order (f.wd 0) 4607182418800017318 == some .gt || double.order (f.wd 0) 4607182418800017318 == some .eq) = true ∧
    (double.order (f.wd 0) 4607182418800017453 == some .lt || double.order (f.wd 0) 4607182418800017453 == some .eq) = true := by
  have hq : f.m ≠ 0 → f.q + 0 ≤ 2045 := fun h => by
    have := Fp.q_le hf h (b := 1029) hv
    omega
  obtain ⟨r, a1, a2, _⟩ := f.rd hf 0 hq
  rw [Nat.pow_zero, Nat.mul_one] at a2
  have c1 : Rd 4607182418800017318 false (2 ^ 53 - 90) 1021 := by
    have := rd_enc false (2 ^ 53 - 90) 1021 (by decide) (by decide) (by decide)
    rwa [show enc false (2 ^ 53 - 90) 1021 = 4607182418800017318 by decide] at this
  have c2 : Rd 4607182418800017453 false (2 ^ 52 + 45) 1022 := by
    have := rd_enc false (2 ^ 52 + 45) 1022 (by decide) (by decide) (by decide)
    rwa [show enc false (2 ^ 52 + 45) 1022 = 4607182418800017453 by decide] at this
  have o1 := order_eq a1 c1
  have o2 := order_eq a1 c2
  rw [a2, hs] at o1 o2
  have l1 : (2 ^ 53 - 90) * 2 ^ 1021 ≤ f.v := by
    have h1 : C ^ 14 * ((2 ^ 53 - 90) * 2 ^ 1021) ≤ C ^ 14 * f.v := by
      calc C ^ 14 * ((2 ^ 53 - 90) * 2 ^ 1021) = (2 ^ 53 - 90) * C ^ 14 * 2 ^ 1021 := by rw [← Nat.mul_assoc, Nat.mul_comm (C ^ 14)]
        _ ≤ A ^ 14 * 2 ^ 53 * 2 ^ 1021 := Nat.mul_le_mul_right _ CAlow
        _ = A ^ 14 * 2 ^ 1074 := by rw [Nat.mul_assoc, ← Nat.pow_add]
        _ ≤ C ^ 14 * f.v := hn.1
    exact Nat.le_of_mul_le_mul_left h1 (C_pos 14)
  have l2 : f.v ≤ (2 ^ 52 + 45) * 2 ^ 1022 := by
    have h1 : A ^ 14 * f.v ≤ A ^ 14 * ((2 ^ 52 + 45) * 2 ^ 1022) := by
      calc A ^ 14 * f.v ≤ C ^ 14 * 2 ^ 1074 := hn.2
        _ = C ^ 14 * 2 ^ 52 * 2 ^ 1022 := by rw [Nat.mul_assoc, ← Nat.pow_add]
        _ ≤ A ^ 14 * (2 ^ 52 + 45) * 2 ^ 1022 := Nat.mul_le_mul_right _ CAup
        _ = A ^ 14 * ((2 ^ 52 + 45) * 2 ^ 1022) := Nat.mul_assoc _ _ _
    exact Nat.le_of_mul_le_mul_left h1 (A_pos 14)
  generalize (2 ^ 53 - 90) * 2 ^ 1021 = L1 at *
  generalize (2 ^ 52 + 45) * 2 ^ 1022 = L2 at *
  unfold sv at o1 o2
  simp only [Bool.false_eq_true, if_false] at o1 o2
  rw [o1, o2]
  constructor
  · rcases Nat.lt_or_eq_of_le l1 with h | h
    · rw [Int.compare_eq_gt.2 (by omega)]; rfl
    · rw [Int.compare_eq_eq.2 (by omega)]; rfl
  · rcases Nat.lt_or_eq_of_le l2 with h | h
    · rw [Int.compare_eq_lt.2 (by omega)]; rfl
    · rw [Int.compare_eq_eq.2 (by omega)]; rfl

/-! ### the factor -/
/-- 2^(k - 16) -/
def pw (k : Nat) : Nat := enc false (2 ^ 52) (1006 + k)

theorem pw_up : ∀ k, k < 32 → double.mul (pw k) 4611686018427387904 = some (pw (k + 1)) := by decide +kernel
theorem pw_down : ∀ k, k < 32 → double.div (pw (k + 1)) 4611686018427387904 = some (pw k) := by decide +kernel
theorem pw_one : pw 16 = 4607182418800017408 := by decide

theorem R_norm (m : Nat) (h1 : 2 ^ 52 ≤ m) (h2 : m < 2 ^ 53) : R m = m := by
  rw [R_small m (by rw [log2_norm h1 h2]; exact Nat.le_refl _), log2_norm h1 h2]
  simp

/-- a corner times the factor -/
theorem scale_word (f : Fp) (hf : f.good) (k : Nat) (hk : k ≤ 32) (hq1 : f.m ≠ 0 → 806 ≤ f.q) (hq2 : f.m ≠ 0 → f.q ≤ 1300) : double.mul (f.wd 16) (pw k) = some (f.wd k) := by
  have hp : Rd (pw k) false (2 ^ 52) (1006 + k) := rd_enc false (2 ^ 52) (1006 + k) (by decide) (by decide) (by omega)
  by_cases h0 : f.m = 0
  · obtain ⟨r, a1, _⟩ := f.rd hf 16 (fun h => absurd h0 h)
    rw [(mul_eq a1 hp).1 (by rw [h0, Nat.zero_mul]), Bool.xor_false]
    unfold Fp.wd
    rw [if_pos h0]
  · have g1 := hq1 h0
    have g2 := hq2 h0
    obtain ⟨m1, m2⟩ : 2 ^ 52 ≤ f.m ∧ f.m < 2 ^ 53 := by
      rcases hf with h | h
      · exact absurd h h0
      · exact h
    obtain ⟨r, a1, _, a3⟩ := f.rd hf 16 (fun _ => by omega)
    have hr := a3 h0
    subst hr
    have e : f.m * 2 ^ 52 * 2 ^ (f.q + 16 + (1006 + k) - 1074) = f.m * 2 ^ (f.q + k) := by
      rw [Nat.mul_assoc, ← Nat.pow_add]
      exact congrArg (fun c => f.m * 2 ^ c) (by omega)
    have hne : f.m ≠ 0 := h0
    have hl : (f.m * 2 ^ (f.q + k)).log2 = 52 + (f.q + k) := by rw [log2_scale _ _ hne, log2_norm m1 m2]
    have h := (mul_eq a1 hp).2 (by omega)
    rw [e] at h
    rw [h (Nat.le_trans m1 (Nat.le_mul_of_pos_right _ (Nat.two_pow_pos _))) (by rw [hl]; omega), Bool.xor_false]
    unfold FL Fp.wd
    rw [R_scale _ _ hne, R_norm f.m m1 m2, hl, if_neg h0]
    exact congrArg (fun c => some (enc f.s f.m c)) (by omega)

/-! ### moderate words -/
theorem split_word (x : Nat) (hx : x < 2 ^ 64) : ∃ s rung, rung < 2 ^ 63 ∧ x = double.word s rung := by
  by_cases h : x < 2 ^ 63
  · exact ⟨false, x, h, rfl⟩
  · refine ⟨true, x - 2 ^ 63, by omega, ?_⟩
    unfold Format.word
    rw [if_pos rfl, sw]; omega

theorem read_word (s : Bool) (rung : Nat) (hr : rung < 2 ^ 63) : double.read (double.word s rung) =
    (if rung < 4503599627370496 then Datum.number s rung (-1074) else if rung < 9218868437227405312 then .number s (4503599627370496 + rung % 4503599627370496) (-1074 + ((rung / 4503599627370496 - 1 : Nat) : Int)) else if rung = 9218868437227405312 then .infinity s else .nan s (rung - 9218868437227405312)) := by
  generalize hxw : double.word s rung = x
  have hneg : x / 9223372036854775808 % 2 = s.toNat ∧ x % 9223372036854775808 = rung := by
    rw [← hxw]
    unfold Format.word
    rw [sw]
    cases s with
    | false => simp only [Bool.false_eq_true, if_false, Bool.toNat_false]; omega
    | true => simp only [if_true, Bool.toNat_true]; omega
  have hs : (x / 9223372036854775808 % 2 == 1) = s := by rw [hneg.1]; cases s <;> rfl
  unfold Format.read
  rw [lp, bin, inf, sw]
  simp only [hs, hneg.2]

theorem neg_word (rung : Nat) (hr : rung < 2 ^ 63) : (double.word true rung) ^^^ 2 ^ 63 = double.word false rung := by
  unfold Format.word
  rw [sw]
  simp only [if_true, Bool.false_eq_true, if_false]
  rw [show (9223372036854775808 : Nat) = 2 ^ 63 by decide]
  apply Nat.eq_of_testBit_eq
  intro i
  rw [Nat.testBit_xor, Nat.testBit_two_pow]
  rcases Nat.lt_trichotomy i 63 with h | h | h
  · rw [Nat.testBit_two_pow_add_gt h]
    have : ¬ (63 = i) := by omega
    simp [this]
  · subst h
    rw [Nat.testBit_two_pow_add_eq]
    simp
  · have h1 : rung.testBit i = false := Nat.testBit_lt_two_pow (Nat.lt_of_lt_of_le hr (Nat.pow_le_pow_right (by decide) (by omega)))
    have h2 : (2 ^ 63 + rung).testBit i = false := Nat.testBit_lt_two_pow (Nat.lt_of_lt_of_le (show 2 ^ 63 + rung < 2 ^ 64 by omega) (Nat.pow_le_pow_right (by decide) (by omega)))
    have : ¬ (63 = i) := by omega
    rw [h1, h2]
    simp [this]

/-- the absolute value, as zzAbs has it -/
def absW (x : Nat) : Nat := if double.order x 0 == some .lt then x ^^^ 2 ^ 63 else x
/-- zzModerate's answer -/
def moderate (x : Nat) : Bool :=
  double.order x 0 == some .eq || ((double.order (absW x) 3706462493325918208 == some .gt || double.order (absW x) 3706462493325918208 == some .eq) && (double.order (absW x) 5507902344274116608 == some .lt || double.order (absW x) 5507902344274116608 == some .eq))

theorem rd_lo : Rd 3706462493325918208 false (2 ^ 52) 822 := by
  have := rd_enc false (2 ^ 52) 822 (by decide) (by decide) (by decide)
  rwa [show enc false (2 ^ 52) 822 = 3706462493325918208 by decide] at this
theorem rd_hi : Rd 5507902344274116608 false (2 ^ 52) 1222 := by
  have := rd_enc false (2 ^ 52) 1222 (by decide) (by decide) (by decide)
  rwa [show enc false (2 ^ 52) 1222 = 5507902344274116608 by decide] at this

theorem rd_zero0 : Rd 0 false 0 0 := rd_zero false

theorem order_nan {x y : Nat} {s : Bool} {n : Nat} (h : double.read x = .nan s n) : double.order x y = none := by
  unfold Format.order
  rw [h]
  cases double.read y <;> rfl

theorem order_inf {x y : Nat} {s t : Bool} {m q : Nat} (h : double.read x = .infinity s) (hy : Rd y t m q) : double.order x y = some (if s then .lt else .gt) := by
  unfold Format.order
  unfold Rd at hy
  rw [h, hy]
  rfl

theorem cmp_neg {V : Nat} (h : 0 < V) : compare (sv true V) (sv false 0) = .lt := by
  rw [Int.compare_eq_lt]; unfold sv; simp; omega
theorem cmp_pos {V : Nat} (h : 0 < V) : compare (sv false V) (sv false 0) = .gt := by
  rw [Int.compare_eq_gt]; unfold sv; simp; omega

/-- the bounds that the two tests give -/
theorem moderate_bounds {s : Bool} {rung m q : Nat} (hr : rung < 2 ^ 63) (h1 : ∀ t, Rd (double.word t rung) t m q) (hm : m ≠ 0) (h : moderate (double.word s rung) = true) :
    2 ^ 52 * 2 ^ 822 ≤ m * 2 ^ q ∧ m * 2 ^ q ≤ 2 ^ 52 * 2 ^ 1222 := by
  have hp : 0 < m * 2 ^ q := Nat.mul_pos (by omega) (Nat.two_pow_pos _)
  have habs : absW (double.word s rung) = double.word false rung := by
    unfold absW
    rw [order_eq (h1 s) rd_zero0, Nat.zero_mul]
    cases s with
    | true =>
      rw [cmp_neg hp, if_pos (by decide)]
      exact neg_word rung hr
    | false =>
      rw [cmp_pos hp]; rfl
  unfold moderate at h
  rw [habs, order_eq (h1 s) rd_zero0, order_eq (h1 false) rd_lo, order_eq (h1 false) rd_hi, Nat.zero_mul] at h
  have hz : (some (compare (sv s (m * 2 ^ q)) (sv false 0)) == some Ordering.eq) = false := by
    cases s with
    | true => rw [cmp_neg hp]; rfl
    | false => rw [cmp_pos hp]; rfl
  rw [hz, Bool.false_or, Bool.and_eq_true] at h
  unfold sv at h
  simp only [Bool.false_eq_true, if_false] at h
  generalize 2 ^ 52 * 2 ^ 822 = L at *
  generalize 2 ^ 52 * 2 ^ 1222 = U at *
  generalize m * 2 ^ q = V at *
  obtain ⟨ha, hb⟩ := h
  constructor
  · rw [Bool.or_eq_true, beq_iff_eq, beq_iff_eq, Option.some.injEq, Option.some.injEq, Int.compare_eq_gt, Int.compare_eq_eq] at ha
    omega
  · rw [Bool.or_eq_true, beq_iff_eq, beq_iff_eq, Option.some.injEq, Option.some.injEq, Int.compare_eq_lt, Int.compare_eq_eq] at hb
    omega

/-- A moderate word is a float of the family, at scale 2^16 above its base. -/
theorem moderate_fp (x : Nat) (hx : x < 2 ^ 64) (h : moderate x = true) : ∃ f : Fp, x = f.wd 16 ∧ f.good ∧ (f.m ≠ 0 → 806 ≤ f.q) ∧ (f.m ≠ 0 → f.q ≤ 1300) ∧ Mid 1259 f := by
  obtain ⟨s, rung, hr, rfl⟩ := split_word x hx
  have hread := fun t => read_word t rung hr
  by_cases h1 : rung < 4503599627370496
  · have hrd : ∀ t, Rd (double.word t rung) t rung 0 := fun t => by
      unfold Rd
      rw [hread t, if_pos h1]; rfl
    by_cases h0 : rung = 0
    · subst h0
      exact ⟨⟨s, 0, 0⟩, rfl, .inl rfl, fun e => absurd rfl e, fun e => absurd rfl e, .inl rfl, by rw [Fp.v_zero (f := ⟨s, 0, 0⟩) rfl]; exact Nat.two_pow_pos _, by rw [Fp.v_zero (f := ⟨s, 0, 0⟩) rfl]; exact Nat.dvd_zero _⟩
    · exfalso
      have := (moderate_bounds hr hrd h0 h).1
      rw [Nat.pow_zero, Nat.mul_one, ← Nat.pow_add] at this
      have h2 : rung < 2 ^ (52 + 822) := Nat.lt_of_lt_of_le (show rung < 2 ^ 52 by omega) (Nat.pow_le_pow_right (by decide) (by decide))
      exact absurd this (Nat.not_le_of_lt h2)
  by_cases h2 : rung < 9218868437227405312
  · obtain ⟨m, hm⟩ : ∃ m, m = 4503599627370496 + rung % 4503599627370496 := ⟨_, rfl⟩
    obtain ⟨q, hq⟩ : ∃ q, q = rung / 4503599627370496 - 1 := ⟨_, rfl⟩
    have m1 : 2 ^ 52 ≤ m := by omega
    have m2 : m < 2 ^ 53 := by omega
    have hrung : rung = q * 2 ^ 52 + m := by omega
    have hrd : ∀ t, Rd (double.word t rung) t m q := fun t => by
      unfold Rd
      rw [hread t, if_neg h1, if_pos h2, ← hm, ← hq, show (-1074 : Int) + (q : Int) = (q : Int) - 1074 by omega]
    obtain ⟨b1, b2⟩ := moderate_bounds hr hrd (by omega) h
    clear hread hrd h
    have q1 : 822 ≤ q := by
      have h3 : m * 2 ^ q < 2 ^ (53 + q) := by rw [Nat.pow_add]; exact Nat.mul_lt_mul_of_pos_right m2 (Nat.two_pow_pos _)
      rw [← Nat.pow_add] at b1
      have := (Nat.pow_lt_pow_iff_right (a := 2) (by decide)).1 (Nat.lt_of_le_of_lt b1 h3)
      omega
    have q2 : q ≤ 1222 := by
      have h3 : 2 ^ (52 + q) ≤ m * 2 ^ q := by rw [Nat.pow_add]; exact Nat.mul_le_mul_right _ m1
      rw [← Nat.pow_add] at b2
      have := (Nat.pow_le_pow_iff_right (a := 2) (by decide)).1 (Nat.le_trans h3 b2)
      omega
    have hm0 : m ≠ 0 := by omega
    refine ⟨⟨s, m, q - 16⟩, ?_, .inr ⟨m1, m2⟩, fun _ => by show 806 ≤ q - 16; omega, fun _ => by show q - 16 ≤ 1300; omega, .inr ⟨m1, m2⟩, ?_, ?_⟩
    · unfold Fp.wd
      rw [if_neg hm0, hrung]
      unfold enc
      exact congrArg (double.word s) (by show q * 2 ^ 52 + m = (q - 16 + 16) * 2 ^ 52 + m; omega)
    · unfold Fp.v
      show m * 2 ^ (q - 16) < 2 ^ 1259
      have h3 : m * 2 ^ (q - 16) < 2 ^ (53 + (q - 16)) := by rw [Nat.pow_add]; exact Nat.mul_lt_mul_of_pos_right m2 (Nat.two_pow_pos _)
      exact Nat.lt_of_lt_of_le h3 (Nat.pow_le_pow_right (by decide) (by omega))
    · unfold Fp.v
      exact Nat.dvd_trans (Nat.pow_dvd_pow 2 (by show 806 ≤ q - 16; omega)) (Nat.dvd_mul_left _ _)
  exfalso
  by_cases h3 : rung = 9218868437227405312
  · have hi : ∀ t, double.read (double.word t rung) = .infinity t := fun t => by rw [hread t, if_neg h1, if_neg h2, if_pos h3]
    have habs : absW (double.word s rung) = double.word false rung := by
      unfold absW
      rw [order_inf (hi s) rd_zero0]
      cases s with
      | true => rw [if_pos (by decide)]; exact neg_word rung hr
      | false => rfl
    unfold moderate at h
    rw [habs, order_inf (hi s) rd_zero0, order_inf (hi false) rd_lo, order_inf (hi false) rd_hi] at h
    cases s <;> simp at h
  · have hnan : ∀ t, double.read (double.word t rung) = .nan t (rung - 9218868437227405312) := fun t => by rw [hread t, if_neg h1, if_neg h2, if_neg h3]
    have habs : absW (double.word s rung) = double.word s rung := by
      unfold absW
      rw [order_nan (hnan s)]; rfl
    unfold moderate at h
    rw [habs, order_nan (hnan s), order_nan (hnan s), order_nan (hnan s)] at h
    simp at h

end Go.Proofs.Qxb6614725a.Fl
