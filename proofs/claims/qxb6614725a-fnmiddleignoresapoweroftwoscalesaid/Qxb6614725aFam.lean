/-
  FLOATS, PLAINLY (3): A FLOAT AT EVERY SCALE: one triple (sign, digits, place) and its word at scale 2^j. '+' keeps the scale, '*' doubles it, the root halves it, '/' takes it away: whatever the scale, the same triple comes out.
-/
import Derived.Test.Qxb6614725aFlOps
namespace Go.Proofs.Qxb6614725a.Fl
open Ieee
set_option exponentiation.threshold 5000

structure Fp where
  s : Bool
  m : Nat
  q : Nat

namespace Fp
/-- zero, or 53 digits -/
def good (f : Fp) : Prop := f.m = 0 ∨ (2 ^ 52 ≤ f.m ∧ f.m < 2 ^ 53)
/-- its magnitude in units -/
def v (f : Fp) : Nat := f.m * 2 ^ f.q
/-- its word at scale 2^j -/
def wd (f : Fp) (j : Nat) : Nat := if f.m = 0 then double.word f.s 0 else enc f.s f.m (f.q + j)

theorem rd (f : Fp) (hg : f.good) (j : Nat) (hj : f.m ≠ 0 → f.q + j ≤ 2045) : ∃ r, Rd (f.wd j) f.s f.m r ∧ f.m * 2 ^ r = f.v * 2 ^ j ∧ (f.m ≠ 0 → r = f.q + j) := by
  unfold wd v
  by_cases h : f.m = 0
  · rw [if_pos h]
    refine ⟨0, ?_, by rw [h]; simp, fun h' => absurd h h'⟩
    rw [h]; exact rd_zero f.s
  · rw [if_neg h]
    rcases hg with h0 | ⟨h1, h2⟩
    · exact absurd h0 h
    · exact ⟨f.q + j, rd_enc _ _ _ h1 h2 (hj h), by rw [Nat.pow_add, Nat.mul_assoc], fun _ => rfl⟩

theorem v_pos {f : Fp} (h : f.m ≠ 0) : 0 < f.v := Nat.mul_pos (by omega) (Nat.two_pow_pos _)
theorem v_zero {f : Fp} (h : f.m = 0) : f.v = 0 := by unfold v; rw [h, Nat.zero_mul]
theorem m_zero {f : Fp} (h : f.v = 0) : f.m = 0 := by
  rcases Nat.mul_eq_zero.1 h with h | h
  · exact h
  · exact absurd h (Nat.pos_iff_ne_zero.1 (Nat.two_pow_pos _))

theorem q_le {f : Fp} (hg : f.good) (hm : f.m ≠ 0) {b : Nat} (h : f.v < 2 ^ (b + 52)) : f.q < b := by
  rcases hg with h0 | ⟨h1, _⟩
  · exact absurd h0 hm
  · have h3 : 2 ^ (52 + f.q) ≤ f.v := by rw [Nat.pow_add]; exact Nat.mul_le_mul_right _ h1
    have := (Nat.pow_lt_pow_iff_right (a := 2) (by decide)).1 (Nat.lt_of_le_of_lt h3 h)
    omega

theorem q_ge {f : Fp} (hg : f.good) (hm : f.m ≠ 0) {a : Nat} (h : 2 ^ (a + 52) ≤ f.v) : a ≤ f.q := by
  rcases hg with h0 | ⟨_, h2⟩
  · exact absurd h0 hm
  · have h3 : f.v < 2 ^ (53 + f.q) := by rw [Nat.pow_add]; exact Nat.mul_lt_mul_of_pos_right h2 (Nat.two_pow_pos _)
    have := (Nat.pow_lt_pow_iff_right (a := 2) (by decide)).1 (Nat.lt_of_le_of_lt h h3)
    omega
end Fp

/-! ### what rounding keeps -/
theorem rv_ge {N a : Nat} (ha : 52 ≤ a) (h : 2 ^ a ≤ N) : 2 ^ a ≤ rv N := by
  have hN : 2 ^ 52 ≤ N := Nat.le_trans (Nat.pow_le_pow_right (by decide) ha) h
  have hne : N ≠ 0 := by omega
  have hL : a ≤ N.log2 := (Nat.le_log2 hne).2 h
  have hb := (R_bounds N hN).1
  unfold rv
  calc 2 ^ a ≤ 2 ^ (52 + (N.log2 - 52)) := Nat.pow_le_pow_right (by decide) (by omega)
    _ = 2 ^ 52 * 2 ^ (N.log2 - 52) := Nat.pow_add _ _ _
    _ ≤ R N * 2 ^ (N.log2 - 52) := Nat.mul_le_mul_right _ hb

theorem rv_le {N b : Nat} (hN : 2 ^ 52 ≤ N) (h : N < 2 ^ b) : rv N ≤ 2 ^ b := by
  have hne : N ≠ 0 := by omega
  have hL : N.log2 < b := (Nat.log2_lt hne).2 h
  have hL' : 52 ≤ N.log2 := (Nat.le_log2 hne).2 hN
  have hb := (R_bounds N hN).2
  unfold rv
  calc R N * 2 ^ (N.log2 - 52) ≤ 2 ^ 53 * 2 ^ (N.log2 - 52) := Nat.mul_le_mul_right _ hb
    _ = 2 ^ (53 + (N.log2 - 52)) := (Nat.pow_add _ _ _).symm
    _ ≤ 2 ^ b := Nat.pow_le_pow_right (by decide) (by omega)

theorem rv_dvd {N g : Nat} (hN : 2 ^ 52 ≤ N) (h : 2 ^ g ∣ N) : 2 ^ g ∣ rv N := by
  have hne : N ≠ 0 := by omega
  have hL' : 52 ≤ N.log2 := (Nat.le_log2 hne).2 hN
  unfold rv
  by_cases hg : g ≤ N.log2 - 52
  · exact Nat.dvd_trans (Nat.pow_dvd_pow 2 hg) (Nat.dvd_mul_left _ _)
  · rw [R_big N hL', half_exact N _ (Nat.dvd_trans (Nat.pow_dvd_pow 2 (by omega)) h)]
    exact h

/-- the triple of a rounded number -/
theorem made (s : Bool) (N : Nat) (h : 2 ^ 52 ≤ N) : ∃ f : Fp, f.good ∧ f.s = s ∧ f.m ≠ 0 ∧ f.v = rv N ∧ ∀ j, FL s (N * 2 ^ j) = f.wd j := by
  obtain ⟨m, q, h1, h2, h3, _, _, h6⟩ := FL_form N h
  have hm : m ≠ 0 := by omega
  refine ⟨⟨s, m, q⟩, .inr ⟨h1, h2⟩, rfl, hm, h3, fun j => ?_⟩
  rw [h6 s j]
  unfold Fp.wd
  rw [if_neg hm]

theorem log2_lt_of {N b : Nat} (h : N < 2 ^ b) (hb : 0 < b) : N.log2 < b := by
  by_cases h0 : N = 0
  · subst h0; simpa using hb
  · exact (Nat.log2_lt h0).2 h

theorem scale_lt {N b j c : Nat} (h : N < 2 ^ b) (hc : b + j ≤ c) : N * 2 ^ j < 2 ^ c :=
  Nat.lt_of_lt_of_le (by rw [Nat.pow_add]; exact Nat.mul_lt_mul_of_pos_right h (Nat.two_pow_pos _)) (Nat.pow_le_pow_right (by decide) hc)

/-- '+' at every scale up to 2^64. -/
theorem add_fam (f g : Fp) (hf : f.good) (hg : g.good) (b : Nat) (hb : b ≤ 1900) (fb' : f.v < 2 ^ b) (gb : g.v < 2 ^ b)
    (big : sv f.s f.v + sv g.s g.v ≠ 0 → 2 ^ 52 ≤ (sv f.s f.v + sv g.s g.v).natAbs) :
    ∃ h : Fp, h.good ∧ (∀ j, j ≤ 64 → double.add (f.wd j) (g.wd j) = some (h.wd j)) ∧
      (sv f.s f.v + sv g.s g.v = 0 → h.m = 0 ∧ h.s = (f.s && g.s)) ∧
      (sv f.s f.v + sv g.s g.v ≠ 0 → h.m ≠ 0 ∧ h.s = decide (sv f.s f.v + sv g.s g.v < 0) ∧ h.v = rv (sv f.s f.v + sv g.s g.v).natAbs) := by
  have fq : ∀ j, j ≤ 64 → f.m ≠ 0 → f.q + j ≤ 2045 := fun j hj hm => by
    have := Fp.q_le hf hm (b := 1900) (Nat.lt_of_lt_of_le fb' (Nat.pow_le_pow_right (by decide) (by omega)))
    omega
  have gq : ∀ j, j ≤ 64 → g.m ≠ 0 → g.q + j ≤ 2045 := fun j hj hm => by
    have := Fp.q_le hg hm (b := 1900) (Nat.lt_of_lt_of_le gb (Nat.pow_le_pow_right (by decide) (by omega)))
    omega
  generalize hT : sv f.s f.v + sv g.s g.v = T at *
  have key : ∀ j, j ≤ 64 → (T = 0 → double.add (f.wd j) (g.wd j) = some (double.word (f.s && g.s) 0)) ∧ (2 ^ 52 ≤ T.natAbs → double.add (f.wd j) (g.wd j) = some (FL (decide (T < 0)) (T.natAbs * 2 ^ j))) := by
    intro j hj
    obtain ⟨r1, a1, a2, _⟩ := f.rd hf j (fq j hj)
    obtain ⟨r2, b1, b2, _⟩ := g.rd hg j (gq j hj)
    have hT' : T * ((2 ^ j : Nat) : Int) = sv f.s (f.m * 2 ^ r1) + sv g.s (g.m * 2 ^ r2) := by
      rw [a2, b2, sv_mul, sv_mul, ← Int.add_mul, hT]
    have := add_eq a1 b1 hT'.symm.symm
    have hp : (0 : Int) < ((2 ^ j : Nat) : Int) := by have := Nat.two_pow_pos j; omega
    refine ⟨fun h0 => this.1 (by rw [h0, Int.zero_mul]), fun h52 => ?_⟩
    have hab : (T * ((2 ^ j : Nat) : Int)).natAbs = T.natAbs * 2 ^ j := by rw [Int.natAbs_mul, Int.natAbs_natCast]
    have hlt : decide (T * ((2 ^ j : Nat) : Int) < 0) = decide (T < 0) := by
      apply decide_eq_decide.2
      constructor
      · intro h
        apply Classical.byContradiction
        intro hn
        have := Int.mul_nonneg (show 0 ≤ T by omega) (Int.le_of_lt hp)
        omega
      · intro h; exact Int.mul_neg_of_neg_of_pos h hp
    have hTb : T.natAbs < 2 ^ (b + 1) := by
      have h1 := natAbs_sv f.s f.v
      have h2 := natAbs_sv g.s g.v
      have h3 := Int.natAbs_add_le (sv f.s f.v) (sv g.s g.v)
      rw [hT, h1, h2] at h3
      rw [Nat.pow_succ]; omega
    have h2 := this.2 (by rw [hab]; exact Nat.le_trans h52 (Nat.le_mul_of_pos_right _ (Nat.two_pow_pos j)))
      (by rw [hab]; exact Nat.le_of_lt_succ (log2_lt_of (scale_lt hTb (by omega)) (by decide)))
    rw [h2, hab, hlt]
  by_cases h0 : T = 0
  · refine ⟨⟨f.s && g.s, 0, 0⟩, .inl rfl, fun j hj => ?_, fun _ => ⟨rfl, rfl⟩, fun h => absurd h0 h⟩
    rw [(key j hj).1 h0]
    rfl
  · obtain ⟨h, hgood, hs, hm, hv, hw⟩ := made (decide (T < 0)) T.natAbs (big h0)
    refine ⟨h, hgood, fun j hj => ?_, fun e => absurd e h0, fun _ => ⟨hm, hs, hv⟩⟩
    rw [(key j hj).2 (big h0), hw j]

/-- 'x * x': the scale is doubled. -/
theorem sqr_fam (f : Fp) (hf : f.good) (J b : Nat) (hJ : J ≤ 32) (hb : b ≤ 1500) (hlo : f.m ≠ 0 → 2 ^ 600 ≤ f.v) (hhi : f.v < 2 ^ b) :
    ∃ (h : Fp) (N : Nat), h.good ∧ N * 2 ^ 1074 = f.v * f.v ∧ (∀ j, j ≤ J → double.mul (f.wd j) (f.wd j) = some (h.wd (2 * j))) ∧ h.s = false ∧
      (f.m = 0 → h.m = 0 ∧ N = 0) ∧ (f.m ≠ 0 → h.m ≠ 0 ∧ 2 ^ 52 ≤ N ∧ h.v = rv N) := by
  by_cases h0 : f.m = 0
  · refine ⟨⟨false, 0, 0⟩, 0, .inl rfl, by rw [Fp.v_zero h0], fun j hj => ?_, rfl, fun _ => ⟨rfl, rfl⟩, fun h => absurd h0 h⟩
    obtain ⟨r1, a1, _⟩ := f.rd hf j (fun h => absurd h0 h)
    rw [(mul_eq a1 a1).1 (by rw [h0])]
    rw [Bool.xor_self]; rfl
  · have hq1 : f.q < 1500 := Fp.q_le hf h0 (Nat.lt_of_lt_of_le hhi (Nat.pow_le_pow_right (by decide) (by omega)))
    have hq0 : 548 ≤ f.q := Fp.q_ge hf h0 (hlo h0)
    have hNv : f.m * f.m * 2 ^ (2 * f.q - 1074) * 2 ^ 1074 = f.v * f.v := by
      unfold Fp.v
      rw [Nat.mul_assoc, ← Nat.pow_add, show 2 * f.q - 1074 + 1074 = f.q + f.q by omega, Nat.pow_add, Nat.mul_mul_mul_comm]
    generalize hN : f.m * f.m * 2 ^ (2 * f.q - 1074) = N at *
    have hlow : 2 ^ 126 ≤ N := by
      have h1 : 2 ^ 600 * 2 ^ 600 ≤ f.v * f.v := Nat.mul_le_mul (hlo h0) (hlo h0)
      rw [← hNv] at h1
      have h2 : 2 ^ 126 * 2 ^ 1074 ≤ N * 2 ^ 1074 := by rw [← Nat.pow_add] at h1 ⊢; exact h1
      exact Nat.le_of_mul_le_mul_right h2 (Nat.two_pow_pos _)
    have h52 : 2 ^ 52 ≤ N := Nat.le_trans (Nat.pow_le_pow_right (by decide) (by decide)) hlow
    have hup : N < 2 ^ 1926 := by
      have h1 : f.v * f.v < 2 ^ 1500 * 2 ^ 1500 := by
        have hv : f.v < 2 ^ 1500 := Nat.lt_of_lt_of_le hhi (Nat.pow_le_pow_right (by decide) hb)
        exact Nat.mul_lt_mul_of_lt_of_le hv (Nat.le_of_lt hv) (Nat.lt_of_le_of_lt (Nat.zero_le _) hv)
      rw [← hNv] at h1
      have h2 : N * 2 ^ 1074 < 2 ^ 1926 * 2 ^ 1074 := by rw [← Nat.pow_add] at h1 ⊢; exact h1
      exact Nat.lt_of_mul_lt_mul_right h2
    obtain ⟨h, hgood, hs, hm, hv, hw⟩ := made false N h52
    refine ⟨h, N, hgood, hNv, fun j hj => ?_, hs, fun e => absurd e h0, fun _ => ⟨hm, h52, hv⟩⟩
    obtain ⟨r1, a1, _, a3⟩ := f.rd hf j (fun _ => by omega)
    have hr := a3 h0
    subst hr
    have e : f.m * f.m * 2 ^ (f.q + j + (f.q + j) - 1074) = N * 2 ^ (2 * j) := by
      rw [← hN, Nat.mul_assoc _ (2 ^ (2 * f.q - 1074)), ← Nat.pow_add]
      exact congrArg (fun k => f.m * f.m * 2 ^ k) (by omega)
    have := (mul_eq a1 a1).2 (by omega)
    rw [e, Bool.xor_self] at this
    rw [this (Nat.le_trans h52 (Nat.le_mul_of_pos_right _ (Nat.two_pow_pos _))) (Nat.le_of_lt_succ (log2_lt_of (scale_lt hup (by omega)) (by decide))), hw]

/-! ### nearness: x and y differ by at most k roundings -/
def A : Nat := 2 ^ 53 - 1
def C : Nat := 2 ^ 53
def Near (k x y : Nat) : Prop := A ^ k * x ≤ C ^ k * y ∧ A ^ k * y ≤ C ^ k * x

theorem A_le_C : A ≤ C := by unfold A C; omega
theorem A_pos (k : Nat) : 0 < A ^ k := Nat.pow_pos (by unfold A; omega)
theorem C_pos (k : Nat) : 0 < C ^ k := Nat.pow_pos (by unfold C; omega)

theorem Near.symm {k x y : Nat} (h : Near k x y) : Near k y x := ⟨h.2, h.1⟩
theorem Near.refl (k x : Nat) : Near k x x := ⟨Nat.mul_le_mul_right _ (Nat.pow_le_pow_left A_le_C k), Nat.mul_le_mul_right _ (Nat.pow_le_pow_left A_le_C k)⟩
theorem Near.half {k l x y z : Nat} (h1 : A ^ k * x ≤ C ^ k * y) (h2 : A ^ l * y ≤ C ^ l * z) : A ^ (k + l) * x ≤ C ^ (k + l) * z := by
  calc A ^ (k + l) * x = A ^ l * (A ^ k * x) := by rw [Nat.pow_add, Nat.mul_comm (A ^ k), Nat.mul_assoc]
    _ ≤ A ^ l * (C ^ k * y) := Nat.mul_le_mul_left _ h1
    _ = C ^ k * (A ^ l * y) := Nat.mul_left_comm _ _ _
    _ ≤ C ^ k * (C ^ l * z) := Nat.mul_le_mul_left _ h2
    _ = C ^ (k + l) * z := by rw [Nat.pow_add, Nat.mul_assoc]
theorem Near.trans {k l x y z : Nat} (h1 : Near k x y) (h2 : Near l y z) : Near (k + l) x z :=
  ⟨Near.half h1.1 h2.1, by rw [Nat.add_comm]; exact Near.half h2.2 h1.2⟩
theorem Near.mono {k l x y : Nat} (h : Near k x y) (hkl : k ≤ l) : Near l x y := by
  obtain ⟨c, rfl⟩ := Nat.exists_eq_add_of_le hkl
  exact h.trans (Near.refl c y)
theorem Near.mul {k l x y x' y' : Nat} (h1 : Near k x y) (h2 : Near l x' y') : Near (k + l) (x * x') (y * y') := by
  constructor
  · calc A ^ (k + l) * (x * x') = (A ^ k * x) * (A ^ l * x') := by rw [Nat.pow_add, Nat.mul_mul_mul_comm]
      _ ≤ (C ^ k * y) * (C ^ l * y') := Nat.mul_le_mul h1.1 h2.1
      _ = C ^ (k + l) * (y * y') := by rw [Nat.pow_add, Nat.mul_mul_mul_comm]
  · calc A ^ (k + l) * (y * y') = (A ^ k * y) * (A ^ l * y') := by rw [Nat.pow_add, Nat.mul_mul_mul_comm]
      _ ≤ (C ^ k * x) * (C ^ l * x') := Nat.mul_le_mul h1.2 h2.2
      _ = C ^ (k + l) * (x * x') := by rw [Nat.pow_add, Nat.mul_mul_mul_comm]
theorem Near.add {k x y x' y' : Nat} (h1 : Near k x y) (h2 : Near k x' y') : Near k (x + x') (y + y') := by
  constructor
  · rw [Nat.mul_add, Nat.mul_add]; exact Nat.add_le_add h1.1 h2.1
  · rw [Nat.mul_add, Nat.mul_add]; exact Nat.add_le_add h1.2 h2.2
theorem Near.cancel {k x y t : Nat} (h : Near k (x * t) (y * t)) (ht : 0 < t) : Near k x y := by
  constructor
  · have := h.1
    rw [← Nat.mul_assoc, ← Nat.mul_assoc] at this
    exact Nat.le_of_mul_le_mul_right this ht
  · have := h.2
    rw [← Nat.mul_assoc, ← Nat.mul_assoc] at this
    exact Nat.le_of_mul_le_mul_right this ht

theorem rv_near {N : Nat} (h : 2 ^ 52 ≤ N) : Near 1 N (rv N) := by
  have hne : N ≠ 0 := by omega
  have hL' : 52 ≤ N.log2 := (Nat.le_log2 hne).2 h
  have hb := half_bounds N (N.log2 - 52)
  have hlow : 2 ^ 52 * 2 ^ (N.log2 - 52) ≤ N := by
    rw [← Nat.pow_add, show 52 + (N.log2 - 52) = N.log2 by omega]; exact Nat.log2_self_le hne
  unfold Near rv A C
  rw [R_big N hL']
  generalize half N (N.log2 - 52) * 2 ^ (N.log2 - 52) = V at *
  generalize 2 ^ (N.log2 - 52) = t at *
  simp only [Nat.pow_one]
  omega

theorem four (i : Nat) : 2 * i * (2 * i) = 4 * (i * i) := Nat.mul_mul_mul_comm 2 i 2 i

/-- The root: the scale is halved. -/
theorem W_near (m b : Nat) (g1 : 2 ^ 52 ≤ m) (g2 : m < 2 ^ 53) (hb : b ≤ 1) : Near 2 (W m b * W m b) (4 * (m * 2 ^ (56 + b))) ∧ 2 ^ 55 ≤ W m b ∧ W m b < 2 ^ 57 := by
  obtain ⟨s1, s2⟩ := isq_spec (m * 2 ^ (56 + b))
  have hW : 2 * isq (m * 2 ^ (56 + b)) ≤ W m b ∧ W m b ≤ 2 * isq (m * 2 ^ (56 + b)) + 1 := by
    unfold W
    generalize (isq (m * 2 ^ (56 + b)) * isq (m * 2 ^ (56 + b)) != m * 2 ^ (56 + b)) = c
    cases c <;> simp
  have n1 : 2 ^ 108 ≤ m * 2 ^ (56 + b) := by
    calc 2 ^ 108 = 2 ^ 52 * 2 ^ 56 := by decide
      _ ≤ m * 2 ^ (56 + b) := Nat.mul_le_mul g1 (Nat.pow_le_pow_right (by decide) (by omega))
  have n2 : m * 2 ^ (56 + b) < 2 ^ 110 := by
    calc m * 2 ^ (56 + b) < 2 ^ 53 * 2 ^ (56 + b) := Nat.mul_lt_mul_of_pos_right g2 (Nat.two_pow_pos _)
      _ ≤ 2 ^ 53 * 2 ^ 57 := Nat.mul_le_mul_left _ (Nat.pow_le_pow_right (by decide) (by omega))
      _ = 2 ^ 110 := by decide
  generalize m * 2 ^ (56 + b) = n at *
  generalize isq n = i at *
  generalize W m b = w at *
  have i1 : 2 ^ 54 ≤ i := by
    apply Classical.byContradiction
    intro hn
    have : (i + 1) * (i + 1) ≤ 2 ^ 54 * 2 ^ 54 := Nat.mul_le_mul (by omega) (by omega)
    omega
  have i2 : i < 2 ^ 55 := by
    apply Classical.byContradiction
    intro hn
    have : 2 ^ 55 * 2 ^ 55 ≤ i * i := Nat.mul_le_mul (by omega) (by omega)
    omega
  refine ⟨⟨?_, ?_⟩, by omega, by omega⟩
  · have h1 : A * w ≤ C * (2 * i) := by unfold A C; omega
    calc A ^ 2 * (w * w) = (A * w) * (A * w) := by rw [Nat.pow_two, Nat.mul_mul_mul_comm]
      _ ≤ (C * (2 * i)) * (C * (2 * i)) := Nat.mul_le_mul h1 h1
      _ = C ^ 2 * (4 * (i * i)) := by rw [Nat.pow_two, Nat.mul_mul_mul_comm, four i]
      _ ≤ C ^ 2 * (4 * n) := Nat.mul_le_mul_left _ (Nat.mul_le_mul_left _ s1)
  · have h1 : A * (2 * (i + 1)) ≤ C * w := by unfold A C; omega
    calc A ^ 2 * (4 * n) ≤ A ^ 2 * (4 * ((i + 1) * (i + 1))) := Nat.mul_le_mul_left _ (Nat.mul_le_mul_left _ (Nat.le_of_lt s2))
      _ = (A * (2 * (i + 1))) * (A * (2 * (i + 1))) := by rw [Nat.pow_two, Nat.mul_mul_mul_comm A (2 * (i + 1)), four (i + 1)]
      _ ≤ (C * w) * (C * w) := Nat.mul_le_mul h1 h1
      _ = C ^ 2 * (w * w) := by rw [Nat.pow_two, Nat.mul_mul_mul_comm]

theorem half_place (q : Nat) (hq : q < 1409) : 57 + ((q - q % 2) / 2 + 508) ≤ 1270 := by omega

theorem sqrt_fam (f : Fp) (hf : f.good) (hs : f.s = false) (h0 : f.m ≠ 0) (hhi : f.v < 2 ^ 1461) :
    ∃ (h : Fp) (N : Nat), h.good ∧ h.s = false ∧ h.m ≠ 0 ∧ h.v = rv N ∧ 2 ^ 52 ≤ N ∧ N < 2 ^ 1270 ∧ Near 2 (N * N) (f.v * 2 ^ 1074) ∧ (∀ j, j ≤ 32 → double.sqrt (f.wd (2 * j)) = some (h.wd j)) := by
  obtain ⟨g1, g2⟩ : 2 ^ 52 ≤ f.m ∧ f.m < 2 ^ 53 := by
    rcases hf with h | h
    · exact absurd h h0
    · exact h
  have hq1 : f.q < 1409 := Fp.q_le hf h0 hhi
  obtain ⟨w1, w2, w3⟩ := W_near f.m (f.q % 2) g1 g2 (by omega)
  have h52 : 2 ^ 52 ≤ W f.m (f.q % 2) * 2 ^ ((f.q - f.q % 2) / 2 + 508) := by
    calc 2 ^ 52 ≤ 2 ^ 55 * 1 := by decide
      _ ≤ W f.m (f.q % 2) * 2 ^ ((f.q - f.q % 2) / 2 + 508) := Nat.mul_le_mul w2 (Nat.two_pow_pos _)
  have hup : W f.m (f.q % 2) * 2 ^ ((f.q - f.q % 2) / 2 + 508) < 2 ^ 1270 := by
    calc W f.m (f.q % 2) * 2 ^ ((f.q - f.q % 2) / 2 + 508) < 2 ^ 57 * 2 ^ ((f.q - f.q % 2) / 2 + 508) := Nat.mul_lt_mul_of_pos_right w3 (Nat.two_pow_pos _)
      _ = 2 ^ (57 + ((f.q - f.q % 2) / 2 + 508)) := (Nat.pow_add _ _ _).symm
      _ ≤ 2 ^ 1270 := Nat.pow_le_pow_right (by decide) (half_place f.q hq1)
  have hnear : Near 2 ((W f.m (f.q % 2) * 2 ^ ((f.q - f.q % 2) / 2 + 508)) * (W f.m (f.q % 2) * 2 ^ ((f.q - f.q % 2) / 2 + 508))) (f.v * 2 ^ 1074) := by
    have h1 := w1.mul (Near.refl 0 (2 ^ ((f.q - f.q % 2) / 2 + 508) * 2 ^ ((f.q - f.q % 2) / 2 + 508)))
    have e1 : W f.m (f.q % 2) * W f.m (f.q % 2) * (2 ^ ((f.q - f.q % 2) / 2 + 508) * 2 ^ ((f.q - f.q % 2) / 2 + 508)) = (W f.m (f.q % 2) * 2 ^ ((f.q - f.q % 2) / 2 + 508)) * (W f.m (f.q % 2) * 2 ^ ((f.q - f.q % 2) / 2 + 508)) := Nat.mul_mul_mul_comm _ _ _ _
    have e2 : 4 * (f.m * 2 ^ (56 + f.q % 2)) * (2 ^ ((f.q - f.q % 2) / 2 + 508) * 2 ^ ((f.q - f.q % 2) / 2 + 508)) = f.v * 2 ^ 1074 := by
      unfold Fp.v
      rw [show (4 : Nat) = 2 ^ 2 by decide, ← Nat.pow_add, Nat.mul_left_comm, Nat.mul_assoc f.m, Nat.mul_assoc f.m, ← Nat.pow_add, ← Nat.pow_add, ← Nat.pow_add]
      exact congrArg (fun k => f.m * 2 ^ k) (by omega)
    rw [e1, e2] at h1
    exact h1
  generalize hN : W f.m (f.q % 2) * 2 ^ ((f.q - f.q % 2) / 2 + 508) = N at *
  obtain ⟨h, hgood, hs', hm, hv, hw⟩ := made false N h52
  refine ⟨h, N, hgood, hs', hm, hv, h52, hup, hnear, fun j hj => ?_⟩
  obtain ⟨r1, a1, _, a3⟩ := f.rd hf (2 * j) (fun _ => by omega)
  have hr := a3 h0
  subst hr
  rw [hs] at a1
  have e1 : (f.q + 2 * j) % 2 = f.q % 2 := by omega
  have e2 : (f.q + 2 * j - f.q % 2) / 2 + 508 = ((f.q - f.q % 2) / 2 + 508) + j := by omega
  have := sqrt_eq a1 g1 g2
  rw [e1, e2, Nat.pow_add, ← Nat.mul_assoc, hN] at this
  rw [this (Nat.le_trans h52 (Nat.le_mul_of_pos_right _ (Nat.two_pow_pos _))) (Nat.le_of_lt_succ (log2_lt_of (scale_lt hup (by omega)) (by decide))), hw]

/-- '/': the scale goes. -/
theorem Z_near (m n : Nat) (m1 : 2 ^ 52 ≤ m) (m2 : m < 2 ^ 53) (n1 : 2 ^ 52 ≤ n) (n2 : n < 2 ^ 53) : Near 1 (Z m n * n) (m * 2 ^ 55) ∧ 2 ^ 54 ≤ Z m n ∧ Z m n < 2 ^ 57 := by
  have hd := Nat.div_add_mod (m * 2 ^ 54) n
  have hl := Nat.mod_lt (m * 2 ^ 54) (show n > 0 by omega)
  have hdl : 2 ^ 53 ≤ m * 2 ^ 54 / n := by
    rw [Nat.le_div_iff_mul_le (by omega)]
    calc 2 ^ 53 * n ≤ 2 ^ 53 * 2 ^ 53 := Nat.mul_le_mul_left _ (Nat.le_of_lt n2)
      _ = 2 ^ 52 * 2 ^ 54 := by decide
      _ ≤ m * 2 ^ 54 := Nat.mul_le_mul_right _ m1
  have hdu : m * 2 ^ 54 / n < 2 ^ 55 := by
    rw [Nat.div_lt_iff_lt_mul (by omega)]
    calc m * 2 ^ 54 < 2 ^ 53 * 2 ^ 54 := Nat.mul_lt_mul_of_pos_right m2 (by decide)
      _ = 2 ^ 55 * 2 ^ 52 := by decide
      _ ≤ 2 ^ 55 * n := Nat.mul_le_mul_left _ n1
  unfold Z
  generalize hc : (m * 2 ^ 54 % n != 0) = c
  generalize m * 2 ^ 54 / n = d at *
  generalize m * 2 ^ 54 % n = r at *
  have hmul : (2 * d + c.toNat) * n = 2 * (n * d) + c.toNat * n := by rw [Nat.add_mul, Nat.mul_assoc, Nat.mul_comm d n]
  rw [hmul]
  generalize n * d = nd at *
  unfold Near A C
  simp only [Nat.pow_one]
  cases c with
  | false =>
    simp only [Bool.toNat_false, Nat.zero_mul]
    have : r = 0 := by simpa using hc
    omega
  | true =>
    simp only [Bool.toNat_true, Nat.one_mul]
    omega

theorem div_fam (f g : Fp) (hf : f.good) (hg : g.good) (f0 : f.m ≠ 0) (g0 : g.m ≠ 0) (flo : 2 ^ 806 ≤ f.v) (fhi : f.v < 2 ^ 1265) (glo : 2 ^ 800 ≤ g.v) (ghi : g.v < 2 ^ 1271) :
    ∃ (h : Fp) (N : Nat), h.good ∧ h.s = (f.s ^^ g.s) ∧ h.m ≠ 0 ∧ h.v = rv N ∧ 2 ^ 600 ≤ N ∧ Near 1 (N * g.v) (f.v * 2 ^ 1074) ∧ (∀ j, j ≤ 32 → double.div (f.wd j) (g.wd j) = some (h.wd 0)) := by
  obtain ⟨m1, m2⟩ : 2 ^ 52 ≤ f.m ∧ f.m < 2 ^ 53 := by
    rcases hf with h | h
    · exact absurd h f0
    · exact h
  obtain ⟨n1, n2⟩ : 2 ^ 52 ≤ g.m ∧ g.m < 2 ^ 53 := by
    rcases hg with h | h
    · exact absurd h g0
    · exact h
  have q1 : 754 ≤ f.q := Fp.q_ge hf f0 flo
  have q2 : f.q < 1213 := Fp.q_le hf f0 fhi
  have q3 : 748 ≤ g.q := Fp.q_ge hg g0 glo
  have q4 : g.q < 1219 := Fp.q_le hg g0 ghi
  obtain ⟨z1, z2, z3⟩ := Z_near f.m g.m m1 m2 n1 n2
  have hlo : 2 ^ 600 ≤ Z f.m g.m * 2 ^ (f.q + 1019 - g.q) := by
    calc 2 ^ 600 ≤ 2 ^ (54 + (f.q + 1019 - g.q)) := Nat.pow_le_pow_right (by decide) (by omega)
      _ = 2 ^ 54 * 2 ^ (f.q + 1019 - g.q) := Nat.pow_add _ _ _
      _ ≤ Z f.m g.m * 2 ^ (f.q + 1019 - g.q) := Nat.mul_le_mul_right _ z2
  have hup : Z f.m g.m * 2 ^ (f.q + 1019 - g.q) < 2 ^ 1560 := by
    calc Z f.m g.m * 2 ^ (f.q + 1019 - g.q) < 2 ^ 57 * 2 ^ (f.q + 1019 - g.q) := Nat.mul_lt_mul_of_pos_right z3 (Nat.two_pow_pos _)
      _ = 2 ^ (57 + (f.q + 1019 - g.q)) := (Nat.pow_add _ _ _).symm
      _ ≤ 2 ^ 1560 := Nat.pow_le_pow_right (by decide) (by omega)
  have h52 : 2 ^ 52 ≤ Z f.m g.m * 2 ^ (f.q + 1019 - g.q) := Nat.le_trans (Nat.pow_le_pow_right (by decide) (by decide)) hlo
  have hnear : Near 1 (Z f.m g.m * 2 ^ (f.q + 1019 - g.q) * g.v) (f.v * 2 ^ 1074) := by
    have h1 := z1.mul (Near.refl 0 (2 ^ (f.q + 1019)))
    have e1 : Z f.m g.m * g.m * 2 ^ (f.q + 1019) = Z f.m g.m * 2 ^ (f.q + 1019 - g.q) * g.v := by
      unfold Fp.v
      rw [Nat.mul_mul_mul_comm, ← Nat.pow_add]
      exact congrArg (fun k => Z f.m g.m * g.m * 2 ^ k) (by omega)
    have e2 : f.m * 2 ^ 55 * 2 ^ (f.q + 1019) = f.v * 2 ^ 1074 := by
      unfold Fp.v
      rw [Nat.mul_assoc, Nat.mul_assoc, ← Nat.pow_add, ← Nat.pow_add]
      exact congrArg (fun k => f.m * 2 ^ k) (by omega)
    rw [e1, e2] at h1
    exact h1
  generalize hN : Z f.m g.m * 2 ^ (f.q + 1019 - g.q) = N at *
  obtain ⟨h, hgood, hs', hm, hv, hw⟩ := made (f.s ^^ g.s) N h52
  refine ⟨h, N, hgood, hs', hm, hv, hlo, hnear, fun j hj => ?_⟩
  obtain ⟨r1, a1, _, a3⟩ := f.rd hf j (fun _ => by omega)
  have hr := a3 f0
  subst hr
  obtain ⟨r2, b1, _, b3⟩ := g.rd hg j (fun _ => by omega)
  have hr := b3 g0
  subst hr
  have e1 : f.q + j + 1019 - (g.q + j) = f.q + 1019 - g.q := by omega
  have := div_eq a1 b1 m1 m2 n1 n2 (by omega)
  rw [e1, hN] at this
  have hw0 := hw 0
  rw [Nat.pow_zero, Nat.mul_one] at hw0
  rw [this h52 (Nat.le_of_lt_succ (log2_lt_of (Nat.lt_of_lt_of_le hup (Nat.pow_le_pow_right (by decide) (by decide))) (by decide))), hw0]
end Go.Proofs.Qxb6614725a.Fl
