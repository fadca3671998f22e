/-
  THE WALK AND THE PLAIN LAW JOINED: FnMiddleIgnoresAPowerOfTwoScale answers true.
-/
import Derived.Test.Qxb6614725aRun
import Derived.Test.Qxb6614725aEndZ
import Derived.Test.Qxb6614725aEndN
import Derived.Test.Qxb6614725aUnit
set_option exponentiation.threshold 5000
namespace Go.Proofs.Qxb6614725a
open Go.RowKit Fl

/-- corners and normals in one -/
def both (c n : Nat → Nat) (i : Nat) : Nat := if i < 12 then c i else n (i - 12)
/-- the boundary's cells -/
def cells24 (f : Nat → Nat) : Array Value := #[.float .f64 (f 0), .float .f64 (f 1), .float .f64 (f 2), .float .f64 (f 3), .float .f64 (f 4), .float .f64 (f 5), .float .f64 (f 6), .float .f64 (f 7), .float .f64 (f 8), .float .f64 (f 9), .float .f64 (f 10), .float .f64 (f 11), .float .f64 (f 12), .float .f64 (f 13), .float .f64 (f 14), .float .f64 (f 15), .float .f64 (f 16), .float .f64 (f 17), .float .f64 (f 18), .float .f64 (f 19), .float .f64 (f 20), .float .f64 (f 21), .float .f64 (f 22), .float .f64 (f 23)]

set_option maxRecDepth 100000 in
theorem mid_of (c n g1 g2 s : Nat → Nat) (P : Nat → Nat → Nat → Prop) (hA : Adds c g1 g2 s) (hU : UnitOf (s 0) (s 1) (s 2) P) : MidOf c n P := by
  refine ⟨cells24 (both c n), rfl, by simp [cells24, Value.oneCell'], by kernel_rfl, fun W => ?_⟩
  have hA' : Adds (both c n) g1 g2 s := by
    intro i hi
    have e : ∀ j, j < 12 → both c n j = c j := fun j hj => if_pos hj
    rw [e i (by omega), e (3 + i) (by omega), e (6 + i) (by omega), e (9 + i) (by omega)]
    exact hA i hi
  exact middle_t (both c n) g1 g2 s P hA' hU W

theorem pick {p : Nat → Fp → Prop} {n : Nat} (h : ∀ i, i < n → ∃ f, p i f) : ∃ F : Nat → Fp, ∀ i, i < n → p i (F i) := by
  classical
  refine ⟨fun i => if hi : i < n then Classical.choose (h i hi) else ⟨false, 0, 0⟩, fun i hi => ?_⟩
  simp only [dif_pos hi]
  exact Classical.choose_spec (h i hi)

theorem q_of {f : Fp} (hf : f.good) {j : Nat} (h : f.v < 2 ^ 1265) (hj : j ≤ 32) : f.m ≠ 0 → f.q + j ≤ 2045 := fun hm => by
  have := Fp.q_le hf hm (b := 1213) h
  omega

theorem q_of0 {f : Fp} (hf : f.good) (h : f.v < 2 ^ 1075) : f.m ≠ 0 → f.q + 0 ≤ 2045 := fun hm => by
  have := Fp.q_le hf hm (b := 1023) h
  omega

/-- one coordinate's sign -/
theorem sign_of (S m : Fp) (hS : S.good) (hv : S.v < 2 ^ 1265) (hm : m.good ∧ m.s = S.s ∧ (m.m = 0 ↔ S.m = 0) ∧ m.v < 2 ^ 1075) (W : World) :
    Calls Try.prog 18 #[.float .f64 (S.wd 16), .float .f64 (m.wd 0)] W fun e w' => e = .returned (.bool true) ∧ w' = W := by
  obtain ⟨a1, a2, a3, a4⟩ := hm
  have e : Ieee.double.order (S.wd 16) 0 = Ieee.double.order (m.wd 0) 0 := by
    rw [ord_zero S hS 16 (q_of hS hv (by decide)), ord_zero m a1 0 (q_of0 a1 a4), a2]
    by_cases h : S.m = 0
    · rw [if_pos h, if_pos (a3.2 h)]
    · rw [if_neg h, if_neg (fun h' => h (a3.1 h'))]
  exact sign_t _ _ _ _ (by rw [e]) rfl (by rw [e]) rfl W

theorem whole_t (c n : Nat → Nat) (hc : ∀ i, i < 12 → c i < 2 ^ 64) (j : Int) (w : World) :
    Calls Try.prog 5 #[.agg (full c), .agg (full n), .int .i64 j] w fun e w' => e = .returned (.bool true) ∧ Below w.heap.size w w' := by
  by_cases hj : j < -16 ∨ 16 < j
  · exact far_t _ _ j hj w ⟨_, rfl⟩ ⟨_, rfl⟩
  have hj1 : ¬ j < -16 := fun h => hj (.inl h)
  have hj2 : ¬ 16 < j := fun h => hj (.inr h)
  by_cases hm : ∀ i, i < 12 → Fl.moderate (c i) = true
  case neg => exact stray_t c n j hj1 hj2 hm w
  obtain ⟨F, hF⟩ := pick (fun i hi => moderate_fp (c i) (hc i hi) (hm i hi))
  obtain ⟨k, hk⟩ : ∃ k, k = (16 + j).toNat := ⟨_, rfl⟩
  have hk32 : k ≤ 32 := by omega
  have hd : ∀ i, i < 12 → Ieee.double.mul (c i) (Fl.pw (16 + j).toNat) = some ((F i).wd k) := by
    intro i hi
    obtain ⟨e, a1, a2, a3, _⟩ := hF i hi
    rw [← hk, e]
    exact scale_word (F i) a1 k hk32 a2 a3
  have hM : ∀ i, i < 12 → Mid 1259 (F i) := fun i hi => (hF i hi).2.2.2.2
  have hsum : ∀ i, i < 3 → ∃ g1 g2 S : Fp, (∀ j, j ≤ 64 → Ieee.double.add ((F i).wd j) ((F (3 + i)).wd j) = some (g1.wd j)) ∧ (∀ j, j ≤ 64 → Ieee.double.add (g1.wd j) ((F (6 + i)).wd j) = some (g2.wd j)) ∧ (∀ j, j ≤ 64 → Ieee.double.add (g2.wd j) ((F (9 + i)).wd j) = some (S.wd j)) ∧
      S.good ∧ S.v < 2 ^ 1265 ∧ (S.m ≠ 0 → 2 ^ 806 ≤ S.v) := fun i hi => sum4 (F i) (F (3 + i)) (F (6 + i)) (F (9 + i)) (hM i (by omega)) (hM _ (by omega)) (hM _ (by omega)) (hM _ (by omega))
  obtain ⟨G1, hG1⟩ := pick hsum
  obtain ⟨G2, hG2⟩ := pick hG1
  obtain ⟨S, hS⟩ := pick hG2
  clear hG1 hG2 hsum
  have hAt : ∀ t, t ≤ 32 → Adds (fun i => (F i).wd t) (fun i => (G1 i).wd t) (fun i => (G2 i).wd t) (fun i => (S i).wd t) := fun t ht i hi => ⟨(hS i hi).1 t (by omega), (hS i hi).2.1 t (by omega), (hS i hi).2.2.1 t (by omega)⟩
  have hA : Adds c (fun i => (G1 i).wd 16) (fun i => (G2 i).wd 16) (fun i => (S i).wd 16) := by
    intro i hi
    have e : ∀ i, i < 12 → c i = (F i).wd 16 := fun i hi => (hF i hi).1
    rw [e i (by omega), e (3 + i) (by omega), e (6 + i) (by omega), e (9 + i) (by omega)]
    exact hAt 16 (by decide) i hi
  obtain ⟨-, -, -, g0, v0, l0⟩ := hS 0 (by decide)
  obtain ⟨-, -, -, g1, v1, l1⟩ := hS 1 (by decide)
  obtain ⟨-, -, -, g2, v2, l2⟩ := hS 2 (by decide)
  by_cases hz : (S 0).m = 0 ∧ (S 1).m = 0 ∧ (S 2).m = 0
  · have w600 : ∀ f : Fp, (f.m ≠ 0 → 2 ^ 806 ≤ f.v) → f.m ≠ 0 → 2 ^ 600 ≤ f.v := fun f h hm => Nat.le_trans (Nat.pow_le_pow_right (by decide) (by decide)) (h hm)
    obtain ⟨px, py, pz, d1, d, _, _, _, _, _, _, ops, dg, ds, _, _, dz⟩ := dot_fam (S 0) (S 1) (S 2) g0 g1 g2 32 1265 1456 (by decide) (by decide) (by decide) (w600 _ l0) (w600 _ l1) (w600 _ l2) v0 v1 v2
    have d0 : d.m = 0 := dz.2 hz
    have zero : ∀ (f : Fp), f.good → f.m = 0 → ∀ t, ∃ r, Rd (f.wd t) f.s 0 r := by
      intro f hf h t
      obtain ⟨r, a, _⟩ := f.rd hf t (fun h' => absurd h h')
      rw [h] at a
      exact ⟨r, a⟩
    have hU : ∀ t, t ≤ 32 → UnitOf ((S 0).wd t) ((S 1).wd t) ((S 2).wd t) Nan3 := by
      intro t ht W
      obtain ⟨o1, o2, o3, o4, o5⟩ := ops t ht
      obtain ⟨r, rd⟩ := zero d dg d0 (2 * t)
      obtain ⟨r0, rd0⟩ := zero (S 0) g0 hz.1 t
      obtain ⟨r1, rd1⟩ := zero (S 1) g1 hz.2.1 t
      obtain ⟨r2, rd2⟩ := zero (S 2) g2 hz.2.2 t
      exact unit_nan _ _ _ _ _ _ _ _ _ o1 o2 o3 o4 o5 (sqrt_zero rd) (div_zero_zero rd0 (rd_zero _)) (div_zero_zero rd1 (rd_zero _)) (div_zero_zero rd2 (rd_zero _)) W
    have M1 := mid_of c n _ _ _ Nan3 hA (hU 16 (by decide))
    have M2 := mid_of (fun i => (F i).wd k) n _ _ _ Nan3 (hAt k hk32) (hU k hk32)
    have hSame : SameOk Nan3 Nan3 := fun x y z x' y' z' h h' W => ⟨same_nan x x' h.1 (h'.1 _) W, same_nan y y' h.2.1 (h'.2.1 _) W, same_nan z z' h.2.2 (h'.2.2 _) W⟩
    have eq0 : ∀ f : Fp, f.good → f.m = 0 → (FloatKind.f64.format.order (f.wd 16) 0 == some .eq) = true := by
      intro f hf h
      rw [show FloatKind.f64.format.order (f.wd 16) 0 = Ieee.double.order (f.wd 16) 0 from rfl, ord_zero f hf 16 (fun h' => absurd h h'), if_pos h]
      rfl
    exact run_t c n (fun i => (F i).wd k) j hj1 hj2 hm hd w (fun W B hz' hb' => endZ_t c n _ _ _ _ Nan3 Nan3 w W B hz' hb' M1 M2 hSame hA (eq0 _ g0 hz.1) (eq0 _ g1 hz.2.1) (eq0 _ g2 hz.2.2))
  · obtain ⟨px, py, pz, d1, d, nn, mx, my, mz, qx, qy, qz, e1, mm, ops, ⟨s1, s2, s3, s4, s5⟩, X, Y, Z, mg, ms, mv, mn⟩ := unit_fam (S 0) (S 1) (S 2) g0 g1 g2 l0 l1 l2 v0 v1 v2 hz
    have hU : ∀ t, t ≤ 32 → UnitOf ((S 0).wd t) ((S 1).wd t) ((S 2).wd t) (fun a b e => a = mx.wd 0 ∧ b = my.wd 0 ∧ e = mz.wd 0) := by
      intro t ht W
      obtain ⟨o1, o2, o3, o4, o5, o6, o7, o8, o9⟩ := ops t ht
      refine (unit_t _ _ _ _ _ _ _ _ _ _ _ _ o1 o2 o3 o4 o5 o6 o7 o8 o9 W).mono ?_
      rintro e w' ⟨rfl, hb⟩
      exact ⟨_, _, _, rfl, ⟨rfl, rfl, rfl⟩, hb⟩
    have M1 := mid_of c n _ _ _ _ hA (hU 16 (by decide))
    have M2 := mid_of (fun i => (F i).wd k) n _ _ _ _ (hAt k hk32) (hU k hk32)
    have hSame : SameOk (fun a b e => a = mx.wd 0 ∧ b = my.wd 0 ∧ e = mz.wd 0) (fun a b e => a = mx.wd 0 ∧ b = my.wd 0 ∧ e = mz.wd 0) := by
      rintro x y z x' y' z' ⟨rfl, rfl, rfl⟩ ⟨rfl, rfl, rfl⟩ W
      exact ⟨same_eq _ _ (ord_self mx X.1 0 (q_of0 X.1 X.2.2.2)) W, same_eq _ _ (ord_self my Y.1 0 (q_of0 Y.1 Y.2.2.2)) W, same_eq _ _ (ord_self mz Z.1 0 (q_of0 Z.1 Z.2.2.2)) W⟩
    obtain ⟨lo, hi⟩ := ord_len mm mg ms mv mn
    have hO : ∀ x y z, (x = mx.wd 0 ∧ y = my.wd 0 ∧ z = mz.wd 0) → ∃ p q r d1 dd, Ok x y z ((S 0).wd 16) ((S 1).wd 16) ((S 2).wd 16) p q r d1 dd := by
      rintro x y z ⟨rfl, rfl, rfl⟩
      exact ⟨_, _, _, _, _, ⟨s1, s2, s3, s4, s5, lo, hi, sign_of _ _ g0 v0 X, sign_of _ _ g1 v1 Y, sign_of _ _ g2 v2 Z⟩⟩
    exact run_t c n (fun i => (F i).wd k) j hj1 hj2 hm hd w (fun W B hz' hb' => endN_t c n _ _ _ _ _ _ w W B hz' hb' M1 M2 hSame hA hO)
end Go.Proofs.Qxb6614725a
