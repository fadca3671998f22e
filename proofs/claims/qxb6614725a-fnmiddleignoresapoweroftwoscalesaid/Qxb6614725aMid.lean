/-
  FLOATS, PLAINLY (4): the middle of four corners: the sum, its length, the quotient; whatever the scale, the same words; its length is 1 within a few roundings; it has the sum's signs.
-/
import Derived.Test.Qxb6614725aFam
namespace Go.Proofs.Qxb6614725a.Fl
open Ieee
set_option exponentiation.threshold 5000

/-! ### the sum of four corners -/
/-- a float below 2^b, a whole number of 2^806 units -/
def Mid (b : Nat) (f : Fp) : Prop := f.good ∧ f.v < 2 ^ b ∧ 2 ^ 806 ∣ f.v

theorem dvd_sv {g : Nat} (s : Bool) {N : Nat} (h : 2 ^ g ∣ N) : ((2 ^ g : Nat) : Int) ∣ sv s N := by
  have : ((2 ^ g : Nat) : Int) ∣ (N : Int) := Int.natCast_dvd_natCast.2 h
  unfold sv
  split
  · exact Int.dvd_neg.2 this
  · exact this

theorem add_mid (f g : Fp) (b : Nat) (hb : b ≤ 1300) (hf : Mid b f) (hg : Mid b g) :
    ∃ h : Fp, Mid (b + 2) h ∧ ∀ j, j ≤ 64 → double.add (f.wd j) (g.wd j) = some (h.wd j) := by
  obtain ⟨f1, f2, f3⟩ := hf
  obtain ⟨g1, g2, g3⟩ := hg
  have hdvd : 2 ^ 806 ∣ (sv f.s f.v + sv g.s g.v).natAbs := by
    have := Int.dvd_add (dvd_sv f.s f3) (dvd_sv g.s g3)
    exact Int.ofNat_dvd_left.1 this
  have big : sv f.s f.v + sv g.s g.v ≠ 0 → 2 ^ 52 ≤ (sv f.s f.v + sv g.s g.v).natAbs := by
    intro h0
    exact Nat.le_trans (Nat.pow_le_pow_right (by decide) (by decide)) (Nat.le_of_dvd (by omega) hdvd)
  obtain ⟨h, h1, h2, h3, h4⟩ := add_fam f g f1 g1 b (by omega) f2 g2 big
  refine ⟨h, ⟨h1, ?_⟩, h2⟩
  by_cases h0 : sv f.s f.v + sv g.s g.v = 0
  · have := (h3 h0).1
    rw [Fp.v_zero this]
    exact ⟨Nat.two_pow_pos _, Nat.dvd_zero _⟩
  · obtain ⟨_, _, hv⟩ := h4 h0
    rw [hv]
    have hTb : (sv f.s f.v + sv g.s g.v).natAbs < 2 ^ (b + 1) := by
      have a1 := natAbs_sv f.s f.v
      have a2 := natAbs_sv g.s g.v
      have a3 := Int.natAbs_add_le (sv f.s f.v) (sv g.s g.v)
      rw [a1, a2] at a3
      rw [Nat.pow_succ]; omega
    refine ⟨Nat.lt_of_le_of_lt (rv_le (big h0) hTb) ?_, rv_dvd (big h0) hdvd⟩
    exact (Nat.pow_lt_pow_iff_right (by decide)).2 (by omega)

/-- the sum of four -/
theorem sum4 (f0 f1 f2 f3 : Fp) (h0 : Mid 1259 f0) (h1 : Mid 1259 f1) (h2 : Mid 1259 f2) (h3 : Mid 1259 f3) :
    ∃ g1 g2 S : Fp, (∀ j, j ≤ 64 → double.add (f0.wd j) (f1.wd j) = some (g1.wd j)) ∧ (∀ j, j ≤ 64 → double.add (g1.wd j) (f2.wd j) = some (g2.wd j)) ∧ (∀ j, j ≤ 64 → double.add (g2.wd j) (f3.wd j) = some (S.wd j)) ∧
      S.good ∧ S.v < 2 ^ 1265 ∧ (S.m ≠ 0 → 2 ^ 806 ≤ S.v) := by
  have up : ∀ (b : Nat) (f : Fp), Mid b f → Mid (b + 2) f := fun b f h => ⟨h.1, Nat.lt_of_lt_of_le h.2.1 (Nat.pow_le_pow_right (by decide) (by omega)), h.2.2⟩
  obtain ⟨g1, m1, e1⟩ := add_mid f0 f1 1259 (by omega) h0 h1
  obtain ⟨g2, m2, e2⟩ := add_mid g1 f2 1261 (by omega) m1 (up _ _ h2)
  obtain ⟨S, m3, e3⟩ := add_mid g2 f3 1263 (by omega) m2 (up _ _ (up _ _ h3))
  refine ⟨g1, g2, S, e1, e2, e3, m3.1, m3.2.1, fun hm => Nat.le_of_dvd (Fp.v_pos hm) m3.2.2⟩

/-! ### a sum of two that are not negative -/
theorem add_pos (f g : Fp) (b : Nat) (hb : b ≤ 1900) (f1 : f.good) (g1 : g.good) (fs : f.s = false) (gs : g.s = false) (fb' : f.v < 2 ^ b) (gb : g.v < 2 ^ b) (flo : f.m ≠ 0 → 2 ^ 52 ≤ f.v) (glo : g.m ≠ 0 → 2 ^ 52 ≤ g.v) :
    ∃ h : Fp, h.good ∧ h.s = false ∧ h.v < 2 ^ (b + 2) ∧ Near 1 (f.v + g.v) h.v ∧ (h.m = 0 → f.m = 0 ∧ g.m = 0) ∧ (f.m = 0 → g.m = 0 → h.m = 0) ∧ (h.m ≠ 0 → 2 ^ 52 ≤ h.v) ∧ ∀ j, j ≤ 64 → double.add (f.wd j) (g.wd j) = some (h.wd j) := by
  have hT : sv f.s f.v + sv g.s g.v = ((f.v + g.v : Nat) : Int) := by rw [fs, gs]; unfold sv; simp
  have hab : (sv f.s f.v + sv g.s g.v).natAbs = f.v + g.v := by rw [hT]; exact Int.natAbs_natCast _
  have big : sv f.s f.v + sv g.s g.v ≠ 0 → 2 ^ 52 ≤ (sv f.s f.v + sv g.s g.v).natAbs := by
    intro h0
    rw [hab]
    by_cases hf : f.m = 0
    · have hg : g.m ≠ 0 := by
        intro hg; apply h0; rw [hT, Fp.v_zero hf, Fp.v_zero hg]; rfl
      exact Nat.le_trans (glo hg) (Nat.le_add_left _ _)
    · exact Nat.le_trans (flo hf) (Nat.le_add_right _ _)
  obtain ⟨h, h1, h2, h3, h4⟩ := add_fam f g f1 g1 b hb fb' gb big
  by_cases h0 : sv f.s f.v + sv g.s g.v = 0
  · obtain ⟨c1, c2⟩ := h3 h0
    have hz : f.v + g.v = 0 := by rw [← hab, h0]; rfl
    have fm : f.m = 0 := Fp.m_zero (by omega)
    have gm : g.m = 0 := Fp.m_zero (by omega)
    refine ⟨h, h1, by rw [c2, fs, gs]; rfl, by rw [Fp.v_zero c1]; exact Nat.two_pow_pos _, ?_, fun _ => ⟨fm, gm⟩, fun _ _ => c1, fun e => absurd c1 e, h2⟩
    rw [hz, Fp.v_zero c1]; exact Near.refl 1 0
  · obtain ⟨c1, c2, c3⟩ := h4 h0
    have big' := big h0
    rw [hab] at c3 big'
    have hlt : f.v + g.v < 2 ^ (b + 1) := by rw [Nat.pow_succ]; omega
    refine ⟨h, h1, ?_, ?_, ?_, fun e => absurd e c1, fun e1 e2 => ?_, fun _ => ?_, h2⟩
    · rw [c2, hT]; simp; omega
    · rw [c3]; exact Nat.lt_of_le_of_lt (rv_le big' hlt) ((Nat.pow_lt_pow_iff_right (by decide)).2 (by omega))
    · rw [c3]; exact rv_near big'
    · exfalso; apply h0; rw [hT, Fp.v_zero e1, Fp.v_zero e2]; rfl
    · rw [c3]; exact rv_ge (Nat.le_refl _) big'

/-! ### from nearness to inequalities -/
theorem near_two {k x y : Nat} (h : Near k x y) (hk : C ^ k ≤ 2 * A ^ k) : x ≤ 2 * y := by
  have h1 : A ^ k * x ≤ A ^ k * (2 * y) := by
    calc A ^ k * x ≤ C ^ k * y := h.1
      _ ≤ 2 * A ^ k * y := Nat.mul_le_mul_right _ hk
      _ = A ^ k * (2 * y) := by rw [Nat.mul_assoc, Nat.mul_left_comm]
  exact Nat.le_of_mul_le_mul_left h1 (A_pos k)
theorem CA3 : C ^ 3 ≤ 2 * A ^ 3 := by unfold C A; decide
theorem CA2 : C ^ 2 ≤ 2 * A ^ 2 := by unfold C A; decide
theorem CA11 : C ^ 11 ≤ 2 * A ^ 11 := by unfold C A; decide +kernel
theorem CAlow : (2 ^ 53 - 90) * C ^ 14 ≤ A ^ 14 * 2 ^ 53 := by unfold C A; decide +kernel
theorem CAup : C ^ 14 * 2 ^ 52 ≤ A ^ 14 * (2 ^ 52 + 45) := by unfold C A; decide +kernel

/-- what a square gives -/
theorem sqr_more (f : Fp) (hf : f.good) (J b c : Nat) (hJ : J ≤ 32) (hb : b ≤ 1500) (hc : 2 * b = c + 1074) (hlo : f.m ≠ 0 → 2 ^ 600 ≤ f.v) (hhi : f.v < 2 ^ b) :
    ∃ (h : Fp) (N : Nat), h.good ∧ h.s = false ∧ N * 2 ^ 1074 = f.v * f.v ∧ (∀ j, j ≤ J → double.mul (f.wd j) (f.wd j) = some (h.wd (2 * j))) ∧
      (h.m = 0 ↔ f.m = 0) ∧ Near 1 N h.v ∧ (h.m ≠ 0 → 2 ^ 52 ≤ h.v) ∧ h.v < 2 ^ (c + 1) := by
  obtain ⟨h, N, h1, h2, h3, h4, h5, h6⟩ := sqr_fam f hf J b hJ hb hlo hhi
  refine ⟨h, N, h1, h4, h2, h3, ?_⟩
  by_cases h0 : f.m = 0
  · obtain ⟨a, rfl⟩ := h5 h0
    refine ⟨⟨fun _ => h0, fun _ => a⟩, by rw [Fp.v_zero a]; exact Near.refl 1 0, fun e => absurd a e, by rw [Fp.v_zero a]; exact Nat.two_pow_pos _⟩
  · obtain ⟨a, b52, hv⟩ := h6 h0
    refine ⟨⟨fun e => absurd e a, fun e => absurd e h0⟩, by rw [hv]; exact rv_near b52, fun _ => by rw [hv]; exact rv_ge (Nat.le_refl _) b52, ?_⟩
    rw [hv]
    have hN : N < 2 ^ c := by
      have hh : f.v * f.v < 2 ^ b * 2 ^ b := Nat.mul_lt_mul_of_lt_of_le hhi (Nat.le_of_lt hhi) (Nat.two_pow_pos _)
      rw [← h2, ← Nat.pow_add, show b + b = c + 1074 by omega, Nat.pow_add] at hh
      exact Nat.lt_of_mul_lt_mul_right hh
    exact Nat.lt_of_le_of_lt (rv_le b52 hN) ((Nat.pow_lt_pow_iff_right (by decide)).2 (by omega))

/-- x*x + y*y + z*z, at every scale -/
theorem dot_fam (x y z : Fp) (hx : x.good) (hy : y.good) (hz : z.good) (J b c : Nat) (hJ : J ≤ 32) (hb : b ≤ 1450) (hc : 2 * b = c + 1074)
    (xl : x.m ≠ 0 → 2 ^ 600 ≤ x.v) (yl : y.m ≠ 0 → 2 ^ 600 ≤ y.v) (zl : z.m ≠ 0 → 2 ^ 600 ≤ z.v) (xh : x.v < 2 ^ b) (yh : y.v < 2 ^ b) (zh : z.v < 2 ^ b) :
    ∃ px py pz d1 d : Fp, ∃ Nx Ny Nz : Nat, Nx * 2 ^ 1074 = x.v * x.v ∧ Ny * 2 ^ 1074 = y.v * y.v ∧ Nz * 2 ^ 1074 = z.v * z.v ∧
      (∀ j, j ≤ J → double.mul (x.wd j) (x.wd j) = some (px.wd (2 * j)) ∧ double.mul (y.wd j) (y.wd j) = some (py.wd (2 * j)) ∧ double.mul (z.wd j) (z.wd j) = some (pz.wd (2 * j)) ∧
        double.add (px.wd (2 * j)) (py.wd (2 * j)) = some (d1.wd (2 * j)) ∧ double.add (d1.wd (2 * j)) (pz.wd (2 * j)) = some (d.wd (2 * j))) ∧
      d.good ∧ d.s = false ∧ d.v < 2 ^ (c + 5) ∧ Near 3 (Nx + Ny + Nz) d.v ∧ (d.m = 0 ↔ (x.m = 0 ∧ y.m = 0 ∧ z.m = 0)) := by
  obtain ⟨px, Nx, a1, a2, a3, a4, a5, a6, a7, a8⟩ := sqr_more x hx J b c hJ (by omega) hc xl xh
  obtain ⟨py, Ny, b1, b2, b3, b4, b5, b6, b7, b8⟩ := sqr_more y hy J b c hJ (by omega) hc yl yh
  obtain ⟨pz, Nz, c1, c2, c3, c4, c5, c6, c7, c8⟩ := sqr_more z hz J b c hJ (by omega) hc zl zh
  obtain ⟨d1, d1a, d1b, d1c, d1d, d1e, d1f, d1g, d1h⟩ := add_pos px py (c + 1) (by omega) a1 b1 a2 b2 a8 b8 a7 b7
  obtain ⟨d, da, db, dc, dd, de, df, _, dh⟩ := add_pos d1 pz (c + 3) (by omega) d1a c1 d1b c2 d1c (Nat.lt_of_lt_of_le c8 (Nat.pow_le_pow_right (by decide) (by omega))) d1g c7
  refine ⟨px, py, pz, d1, d, Nx, Ny, Nz, a3, b3, c3, fun j hj => ⟨a4 j hj, b4 j hj, c4 j hj, d1h _ (by omega), dh _ (by omega)⟩, da, db, dc, ?_, ?_⟩
  · have n1 : Near 2 (Nx + Ny) d1.v := (a6.add b6).trans d1d
    have n2 : Near 2 (Nx + Ny + Nz) (d1.v + pz.v) := n1.add (c6.mono (by decide))
    exact n2.trans dd
  · constructor
    · intro h
      obtain ⟨e1, e2⟩ := de h
      obtain ⟨e3, e4⟩ := d1e e1
      exact ⟨a5.1 e3, b5.1 e4, c5.1 e2⟩
    · rintro ⟨e1, e2, e3⟩
      exact df (d1f (a5.2 e1) (b5.2 e2)) (c5.2 e3)
end Go.Proofs.Qxb6614725a.Fl
