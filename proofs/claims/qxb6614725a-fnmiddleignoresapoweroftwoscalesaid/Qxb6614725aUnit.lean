/-
  FLOATS, PLAINLY (5): the unit vector of a sum that is not zero: the same words at every scale; the sum's signs; its length.
-/
import Derived.Test.Qxb6614725aMid
namespace Go.Proofs.Qxb6614725a.Fl
open Ieee
set_option exponentiation.threshold 5000

theorem CA1 : C ^ 1 ≤ 2 * A ^ 1 := by unfold C A; decide

/-- one quotient -/
theorem quot (x n : Fp) (hx : x.good) (hn : n.good) (ns : n.s = false) (n0 : n.m ≠ 0) (xl : x.m ≠ 0 → 2 ^ 806 ≤ x.v) (xh : x.v < 2 ^ 1265) (nl : 2 ^ 800 ≤ n.v) (nh : n.v < 2 ^ 1271) :
    ∃ mx : Fp, mx.good ∧ mx.s = x.s ∧ (mx.m = 0 ↔ x.m = 0) ∧ (∀ j, j ≤ 32 → double.div (x.wd j) (n.wd j) = some (mx.wd 0)) ∧ Near 2 (mx.v * n.v) (x.v * 2 ^ 1074) ∧ (mx.m ≠ 0 → 2 ^ 600 ≤ mx.v) := by
  by_cases h0 : x.m = 0
  · refine ⟨⟨x.s, 0, 0⟩, .inl rfl, rfl, ⟨fun _ => h0, fun _ => rfl⟩, fun j hj => ?_, ?_, fun h => absurd rfl h⟩
    · have q4 : n.q < 1219 := Fp.q_le hn n0 nh
      obtain ⟨r1, a1, _⟩ := x.rd hx j (fun h => absurd h0 h)
      obtain ⟨r2, b1, _⟩ := n.rd hn j (fun _ => by omega)
      rw [h0] at a1
      rw [div_zero_left a1 b1 n0, ns, Bool.xor_false]
      rfl
    · rw [Fp.v_zero h0, Fp.v_zero (f := ⟨x.s, 0, 0⟩) rfl, Nat.zero_mul, Nat.zero_mul]
      exact Near.refl 2 0
  · obtain ⟨h, N, h1, h2, h3, h4, h5, h6, h7⟩ := div_fam x n hx hn h0 n0 (xl h0) xh nl nh
    have h52 : 2 ^ 52 ≤ N := Nat.le_trans (Nat.pow_le_pow_right (by decide) (by decide)) h5
    refine ⟨h, h1, by rw [h2, ns, Bool.xor_false], ⟨fun e => absurd e h3, fun e => absurd e h0⟩, h7, ?_, fun _ => ?_⟩
    · have n1 : Near 1 (h.v * n.v) (N * n.v) := by
        have := (rv_near h52).symm.mul (Near.refl 0 n.v)
        rw [h4]; exact this
      exact n1.trans h6
    · rw [h4]; exact rv_ge (by decide) h5

/-- the bookkeeping of squares -/
theorem sq_near {mx V xv E : Nat} {N : Nat} (h : Near 2 (mx * V) (xv * E)) (hN : N * E = xv * xv) : Near 4 (mx * mx * (V * V)) (N * E * (E * E)) := by
  have := h.mul h
  rw [Nat.mul_mul_mul_comm mx V, Nat.mul_mul_mul_comm xv E, ← hN] at this
  exact this

theorem lt_of_sq {a b : Nat} (h : a * a < b * b) : a < b := by
  apply Classical.byContradiction
  intro hn
  have := Nat.mul_le_mul (Nat.le_of_not_lt hn) (Nat.le_of_not_lt hn)
  omega

/-- what one coordinate is at most -/
theorem coord_le {mx V xv E N T d : Nat} (hV : 0 < V) (hE : 0 < E) (h1 : Near 2 (mx * V) (xv * E)) (hN : N * E = xv * xv) (hT : N ≤ T) (h2 : Near 3 T d) (h3 : Near 4 (d * E) (V * V)) : mx < 2 * E := by
  have a := (sq_near h1 hN).1
  have b : A ^ 3 * (N * E * (E * E)) ≤ C ^ 3 * (d * E * (E * E)) := by
    have : A ^ 3 * N ≤ C ^ 3 * d := Nat.le_trans (Nat.mul_le_mul_left _ hT) h2.1
    have := Nat.mul_le_mul_right (E * (E * E)) this
    rw [Nat.mul_assoc, Nat.mul_assoc, ← Nat.mul_assoc N, ← Nat.mul_assoc d] at this
    exact this
  have c : A ^ 4 * (d * E * (E * E)) ≤ C ^ 4 * (V * V * (E * E)) := by
    calc A ^ 4 * (d * E * (E * E)) = A ^ 4 * (d * E) * (E * E) := (Nat.mul_assoc _ _ _).symm
      _ ≤ C ^ 4 * (V * V) * (E * E) := Nat.mul_le_mul_right (E * E) h3.1
      _ = C ^ 4 * (V * V * (E * E)) := Nat.mul_assoc _ _ _
  have f := Near.half (Near.half a b) c
  have f' : A ^ 11 * (mx * mx) * (V * V) ≤ C ^ 11 * (E * E) * (V * V) := by
    have e1 : A ^ 11 * (mx * mx) * (V * V) = A ^ (4 + 3 + 4) * (mx * mx * (V * V)) := by rw [Nat.mul_assoc]
    have e2 : C ^ 11 * (E * E) * (V * V) = C ^ (4 + 3 + 4) * (V * V * (E * E)) := by rw [Nat.mul_assoc, Nat.mul_comm (E * E)]
    rw [e1, e2]; exact f
  have g := Nat.le_of_mul_le_mul_right f' (Nat.mul_pos hV hV)
  have k : A ^ 11 * (mx * mx) ≤ A ^ 11 * (2 * (E * E)) := by
    calc A ^ 11 * (mx * mx) ≤ C ^ 11 * (E * E) := g
      _ ≤ 2 * A ^ 11 * (E * E) := Nat.mul_le_mul_right _ CA11
      _ = A ^ 11 * (2 * (E * E)) := by rw [Nat.mul_assoc, Nat.mul_left_comm]
  have l := Nat.le_of_mul_le_mul_left k (A_pos 11)
  apply lt_of_sq
  rw [four E]
  have : 0 < E * E := Nat.mul_pos hE hE
  omega

/-- the length -/
theorem len_near {a b c V xv yv zv E Nx Ny Nz d Qx Qy Qz mm : Nat} (hV : 0 < V) (hE : 0 < E) (ha : Near 2 (a * V) (xv * E)) (hb : Near 2 (b * V) (yv * E)) (hc : Near 2 (c * V) (zv * E))
    (nx : Nx * E = xv * xv) (ny : Ny * E = yv * yv) (nz : Nz * E = zv * zv) (h2 : Near 3 (Nx + Ny + Nz) d) (h3 : Near 4 (d * E) (V * V))
    (qx : Qx * E = a * a) (qy : Qy * E = b * b) (qz : Qz * E = c * c) (h4 : Near 3 (Qx + Qy + Qz) mm) : Near 14 E mm := by
  have s := ((sq_near ha nx).add (sq_near hb ny)).add (sq_near hc nz)
  rw [← qx, ← qy, ← qz, ← Nat.add_mul, ← Nat.add_mul, ← Nat.add_mul, ← Nat.add_mul, ← Nat.add_mul, ← Nat.add_mul, ← Nat.add_mul, ← Nat.add_mul] at s
  generalize Nx + Ny + Nz = T at *
  generalize Qx + Qy + Qz = TQ at *
  have b1 : Near 3 (T * E * (E * E)) (d * E * (E * E)) := by
    have := h2.mul (Near.refl 0 (E * (E * E)))
    rw [Nat.mul_assoc T E, Nat.mul_assoc d E]
    exact this
  have c1 : Near 4 (d * E * (E * E)) (V * V * (E * E)) := h3.mul (Near.refl 0 (E * E))
  have t := (s.trans b1).trans c1
  have t' : Near 11 (TQ * (E * (V * V))) (E * (E * (V * V))) := by
    have e1 : TQ * (E * (V * V)) = TQ * E * (V * V) := (Nat.mul_assoc _ _ _).symm
    have e2 : E * (E * (V * V)) = V * V * (E * E) := by rw [← Nat.mul_assoc, Nat.mul_comm]
    rw [e1, e2]; exact t
  have u := t'.cancel (Nat.mul_pos hE (Nat.mul_pos hV hV))
  exact u.symm.trans h4

theorem unit_fam (x y z : Fp) (hx : x.good) (hy : y.good) (hz : z.good) (xl : x.m ≠ 0 → 2 ^ 806 ≤ x.v) (yl : y.m ≠ 0 → 2 ^ 806 ≤ y.v) (zl : z.m ≠ 0 → 2 ^ 806 ≤ z.v)
    (xh : x.v < 2 ^ 1265) (yh : y.v < 2 ^ 1265) (zh : z.v < 2 ^ 1265) (hne : ¬ (x.m = 0 ∧ y.m = 0 ∧ z.m = 0)) :
    ∃ px py pz d1 d n mx my mz qx qy qz e1 mm : Fp,
      (∀ j, j ≤ 32 → double.mul (x.wd j) (x.wd j) = some (px.wd (2 * j)) ∧ double.mul (y.wd j) (y.wd j) = some (py.wd (2 * j)) ∧ double.mul (z.wd j) (z.wd j) = some (pz.wd (2 * j)) ∧
        double.add (px.wd (2 * j)) (py.wd (2 * j)) = some (d1.wd (2 * j)) ∧ double.add (d1.wd (2 * j)) (pz.wd (2 * j)) = some (d.wd (2 * j)) ∧ double.sqrt (d.wd (2 * j)) = some (n.wd j) ∧
        double.div (x.wd j) (n.wd j) = some (mx.wd 0) ∧ double.div (y.wd j) (n.wd j) = some (my.wd 0) ∧ double.div (z.wd j) (n.wd j) = some (mz.wd 0)) ∧
      (double.mul (mx.wd 0) (mx.wd 0) = some (qx.wd 0) ∧ double.mul (my.wd 0) (my.wd 0) = some (qy.wd 0) ∧ double.mul (mz.wd 0) (mz.wd 0) = some (qz.wd 0) ∧ double.add (qx.wd 0) (qy.wd 0) = some (e1.wd 0) ∧ double.add (e1.wd 0) (qz.wd 0) = some (mm.wd 0)) ∧
      (mx.good ∧ mx.s = x.s ∧ (mx.m = 0 ↔ x.m = 0) ∧ mx.v < 2 ^ 1075) ∧ (my.good ∧ my.s = y.s ∧ (my.m = 0 ↔ y.m = 0) ∧ my.v < 2 ^ 1075) ∧ (mz.good ∧ mz.s = z.s ∧ (mz.m = 0 ↔ z.m = 0) ∧ mz.v < 2 ^ 1075) ∧
      mm.good ∧ mm.s = false ∧ mm.v < 2 ^ 1081 ∧ Near 14 (2 ^ 1074) mm.v := by
  have w600 : ∀ f : Fp, (f.m ≠ 0 → 2 ^ 806 ≤ f.v) → f.m ≠ 0 → 2 ^ 600 ≤ f.v := fun f h hm => Nat.le_trans (Nat.pow_le_pow_right (by decide) (by decide)) (h hm)
  obtain ⟨px, py, pz, d1, d, Nx, Ny, Nz, nx, ny, nz, ops, dg, ds, dv, dn, dz⟩ := dot_fam x y z hx hy hz 32 1265 1456 (by decide) (by decide) (by decide) (w600 x xl) (w600 y yl) (w600 z zl) xh yh zh
  have d0 : d.m ≠ 0 := fun h => hne (dz.1 h)
  obtain ⟨n, Nn, ng, ns, n0, nv, n52, nup, nnear, nops⟩ := sqrt_fam d dg ds d0 dv
  have nh : n.v < 2 ^ 1271 := by rw [nv]; exact Nat.lt_of_le_of_lt (rv_le n52 nup) ((Nat.pow_lt_pow_iff_right (by decide)).2 (by decide))
  have vv : Near 4 (d.v * 2 ^ 1074) (n.v * n.v) := by
    have h1 := (rv_near n52).mul (rv_near n52)
    rw [← nv] at h1
    exact nnear.symm.trans h1
  have big : ∀ (f : Fp) (N : Nat), (f.m ≠ 0 → 2 ^ 806 ≤ f.v) → f.m ≠ 0 → N * 2 ^ 1074 = f.v * f.v → 2 ^ 538 ≤ N := by
    intro f N hl hm hN
    have h1 : 2 ^ 806 * 2 ^ 806 ≤ f.v * f.v := Nat.mul_le_mul (hl hm) (hl hm)
    rw [← hN, ← Nat.pow_add, show 806 + 806 = 538 + 1074 by decide, Nat.pow_add] at h1
    exact Nat.le_of_mul_le_mul_right h1 (Nat.two_pow_pos _)
  have hT : 2 ^ 538 ≤ Nx + Ny + Nz := by
    by_cases hx0 : x.m = 0
    · by_cases hy0 : y.m = 0
      · by_cases hz0 : z.m = 0
        · exact absurd ⟨hx0, hy0, hz0⟩ hne
        · exact Nat.le_trans (big z Nz zl hz0 nz) (Nat.le_add_left _ _)
      · exact Nat.le_trans (big y Ny yl hy0 ny) (Nat.le_trans (Nat.le_add_left _ _) (Nat.le_add_right _ _))
    · exact Nat.le_trans (big x Nx xl hx0 nx) (Nat.le_trans (Nat.le_add_right _ _) (Nat.le_add_right _ _))
  have hd : 2 ^ 537 ≤ d.v := by
    have h1 := near_two dn CA3
    have h2 : 2 * 2 ^ 537 ≤ 2 * d.v := Nat.le_trans (by rw [← Nat.pow_succ']; exact hT) h1
    exact Nat.le_of_mul_le_mul_left h2 (by decide)
  have hNn : 2 ^ 800 ≤ Nn := by
    have h1 := near_two nnear.symm CA2
    apply Classical.byContradiction
    intro hn
    have h2 : Nn * Nn ≤ 2 ^ 800 * 2 ^ 800 := Nat.mul_le_mul (Nat.le_of_not_le hn) (Nat.le_of_not_le hn)
    have h3 : 2 ^ 537 * 2 ^ 1074 ≤ d.v * 2 ^ 1074 := Nat.mul_le_mul_right _ hd
    have h4 : 2 ^ 537 * 2 ^ 1074 ≤ 2 * (2 ^ 800 * 2 ^ 800) := Nat.le_trans h3 (Nat.le_trans h1 (Nat.mul_le_mul_left _ h2))
    rw [← Nat.pow_add, ← Nat.pow_add, ← Nat.pow_succ'] at h4
    have := (Nat.pow_le_pow_iff_right (a := 2) (by decide)).1 h4
    omega
  have nl : 2 ^ 800 ≤ n.v := by rw [nv]; exact rv_ge (by decide) hNn
  obtain ⟨mx, mxg, mxs, mxz, mxo, mxn, mxl⟩ := quot x n hx ng ns n0 xl xh nl nh
  obtain ⟨my, myg, mys, myz, myo, myn, myl⟩ := quot y n hy ng ns n0 yl yh nl nh
  obtain ⟨mz, mzg, mzs, mzz, mzo, mzn, mzl⟩ := quot z n hz ng ns n0 zl zh nl nh
  have hV : 0 < n.v := Fp.v_pos n0
  have hE : 0 < 2 ^ 1074 := Nat.two_pow_pos _
  have ux : mx.v < 2 ^ 1075 := by
    have := coord_le hV hE mxn nx (Nat.le_trans (Nat.le_add_right _ _) (Nat.le_add_right _ _)) dn vv
    rw [← Nat.pow_succ'] at this; exact this
  have uy : my.v < 2 ^ 1075 := by
    have := coord_le hV hE myn ny (Nat.le_trans (Nat.le_add_left _ _) (Nat.le_add_right _ _)) dn vv
    rw [← Nat.pow_succ'] at this; exact this
  have uz : mz.v < 2 ^ 1075 := by
    have := coord_le hV hE mzn nz (Nat.le_add_left _ _) dn vv
    rw [← Nat.pow_succ'] at this; exact this
  obtain ⟨qx, qy, qz, e1, mm, Qx, Qy, Qz, kx, ky, kz, mops, mg, ms, mv, mn, _⟩ := dot_fam mx my mz mxg myg mzg 0 1075 1076 (by decide) (by decide) (by decide) mxl myl mzl ux uy uz
  refine ⟨px, py, pz, d1, d, n, mx, my, mz, qx, qy, qz, e1, mm, fun j hj => ?_, mops 0 (Nat.le_refl _), ⟨mxg, mxs, mxz, ux⟩, ⟨myg, mys, myz, uy⟩, ⟨mzg, mzs, mzz, uz⟩, mg, ms, mv, ?_⟩
  · obtain ⟨o1, o2, o3, o4, o5⟩ := ops j hj
    exact ⟨o1, o2, o3, o4, o5, nops j hj, mxo j hj, myo j hj, mzo j hj⟩
  · exact len_near hV hE mxn myn mzn nx ny nz dn vv kx ky kz mn
end Go.Proofs.Qxb6614725a.Fl
