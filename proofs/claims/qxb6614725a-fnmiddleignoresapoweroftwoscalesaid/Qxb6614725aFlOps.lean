/-
  FLOATS, PLAINLY (2): '+', '*', '/', the root and the order on words whose reading is known, as whole numbers of units.
-/
import Derived.Test.Qxb6614725aFl
namespace Go.Proofs.Qxb6614725a.Fl
open Ieee

/-- with its sign -/
def sv (s : Bool) (N : Nat) : Int := if s then -(N : Int) else (N : Int)

theorem signed_eq (s : Bool) (m u : Nat) : signed s m u = sv s (m * 2 ^ u) := by
  unfold signed sv
  rw [Nat.shiftLeft_eq]

theorem sv_mul (s : Bool) (N c : Nat) : sv s (N * c) = sv s N * (c : Int) := by
  unfold sv
  split
  · rw [Int.natCast_mul, Int.neg_mul]
  · rw [Int.natCast_mul]

theorem natAbs_sv (s : Bool) (N : Nat) : (sv s N).natAbs = N := by
  unfold sv; split <;> omega

/-- what x stands for: sign s, m * 2^q units -/
def Rd (x : Nat) (s : Bool) (m q : Nat) : Prop := double.read x = .number s m ((q : Int) - 1074)

theorem rd_zero (s : Bool) : Rd (double.word s 0) s 0 0 := read_zero s
theorem rd_enc (s : Bool) (m q : Nat) (h1 : 2 ^ 52 ≤ m) (h2 : m < 2 ^ 53) (h3 : q ≤ 2045) : Rd (enc s m q) s m q := read_enc s m q h1 h2 h3

theorem write_zero (s : Bool) (p : Int) : double.write (.number s 0 p) = double.word s 0 := by
  show double.nearest s 0 p = _
  unfold Format.nearest
  rw [if_pos rfl]

theorem add_eq {x y : Nat} {s t : Bool} {m n q r : Nat} (hx : Rd x s m q) (hy : Rd y t n r) {T : Int} (hT : T = sv s (m * 2 ^ q) + sv t (n * 2 ^ r)) :
    (T = 0 → double.add x y = some (double.word (s && t) 0)) ∧ (2 ^ 52 ≤ T.natAbs → T.natAbs.log2 ≤ 2096 → double.add x y = some (FL (decide (T < 0)) T.natAbs)) := by
  unfold Rd at hx hy
  unfold Format.add
  rw [hx, hy]
  unfold Datum.sum
  simp only [Option.map_some]
  have e0 : min ((q : Int) - 1074) ((r : Int) - 1074) = ((min q r : Nat) : Int) - 1074 := by omega
  rw [e0]
  have e1 : ((q : Int) - 1074 - (((min q r : Nat) : Int) - 1074)).toNat = q - min q r := by omega
  have e2 : ((r : Int) - 1074 - (((min q r : Nat) : Int) - 1074)).toNat = r - min q r := by omega
  rw [e1, e2, signed_eq, signed_eq]
  generalize htot : sv s (m * 2 ^ (q - min q r)) + sv t (n * 2 ^ (r - min q r)) = tot
  have hTt : T = tot * ((2 ^ (min q r) : Nat) : Int) := by
    rw [hT, ← htot, Int.add_mul, ← sv_mul, ← sv_mul, Nat.mul_assoc, Nat.mul_assoc, ← Nat.pow_add, ← Nat.pow_add]
    congr 4 <;> congr 2 <;> omega
  have hp : 0 < 2 ^ (min q r) := Nat.two_pow_pos _
  have hpI : (0 : Int) < ((2 ^ (min q r) : Nat) : Int) := by omega
  constructor
  · intro h0
    have ht0 : tot = 0 := by
      rw [hTt] at h0
      rcases Int.mul_eq_zero.1 h0 with h | h
      · exact h
      · omega
    rw [ht0]
    simp only [if_true, Int.natAbs_zero]
    rw [write_zero]
  · intro h52 hu
    have hne : tot ≠ 0 := by
      intro h; rw [hTt, h, Int.zero_mul] at h52; simp at h52
    have hab : T.natAbs = tot.natAbs * 2 ^ (min q r) := by rw [hTt, Int.natAbs_mul, Int.natAbs_natCast]
    have hlt : decide (T < 0) = decide (tot < 0) := by
      apply decide_eq_decide.2
      rw [hTt]
      constructor
      · intro h
        apply Classical.byContradiction
        intro hn
        have := Int.mul_nonneg (show 0 ≤ tot by omega) (Int.le_of_lt hpI)
        omega
      · intro h; exact Int.mul_neg_of_neg_of_pos h hpI
    rw [if_neg hne, hlt, hab]
    rw [hab] at h52 hu
    rw [write_FL _ _ _ (by omega) h52 hu]

theorem mul_eq {x y : Nat} {s t : Bool} {m n q r : Nat} (hx : Rd x s m q) (hy : Rd y t n r) :
    (m * n = 0 → double.mul x y = some (double.word (s ^^ t) 0)) ∧
    (1074 ≤ q + r → 2 ^ 52 ≤ m * n * 2 ^ (q + r - 1074) → (m * n * 2 ^ (q + r - 1074)).log2 ≤ 2096 → double.mul x y = some (FL (s ^^ t) (m * n * 2 ^ (q + r - 1074)))) := by
  unfold Rd at hx hy
  unfold Format.mul
  rw [hx, hy]
  unfold Datum.product
  simp only [Option.map_some]
  constructor
  · intro h0; rw [h0, write_zero]
  · intro hq h52 hu
    have e : (q : Int) - 1074 + ((r : Int) - 1074) = ((q + r - 1074 : Nat) : Int) - 1074 := by omega
    have hne : m * n ≠ 0 := by intro h; rw [h, Nat.zero_mul] at h52; simp at h52
    rw [e, write_FL _ _ _ hne h52 hu]

/-- the quotient's digits, the last one telling of a rest -/
def Z (m n : Nat) : Nat := 2 * (m * 2 ^ 54 / n) + (m * 2 ^ 54 % n != 0).toNat

theorem log2_norm {m : Nat} (h1 : 2 ^ 52 ≤ m) (h2 : m < 2 ^ 53) : m.log2 = 52 := by
  have hne : m ≠ 0 := by omega
  have := (Nat.le_log2 hne).2 h1
  have := (Nat.log2_lt hne).2 h2
  omega

theorem div_eq {x y : Nat} {s t : Bool} {m n q r : Nat} (hx : Rd x s m q) (hy : Rd y t n r) (m1 : 2 ^ 52 ≤ m) (m2 : m < 2 ^ 53) (n1 : 2 ^ 52 ≤ n) (n2 : n < 2 ^ 53)
    (hq : r ≤ q + 1019) (h52 : 2 ^ 52 ≤ Z m n * 2 ^ (q + 1019 - r)) (hu : (Z m n * 2 ^ (q + 1019 - r)).log2 ≤ 2096) :
    double.div x y = some (FL (s ^^ t) (Z m n * 2 ^ (q + 1019 - r))) := by
  unfold Rd at hx hy
  unfold Format.div
  rw [hx, hy]
  unfold Datum.quotient
  simp only
  rw [if_neg (by omega)]
  simp only [Option.map_some, log2_norm m1 m2, log2_norm n1 n2, fb, Nat.shiftLeft_eq]
  have e : (q : Int) - 1074 - ((r : Int) - 1074) - ((52 + 2 + 52 - 52 : Nat) : Int) - 1 = ((q + 1019 - r : Nat) : Int) - 1074 := by omega
  rw [e]
  have hne : Z m n ≠ 0 := by intro h; rw [h, Nat.zero_mul] at h52; simp at h52
  exact congrArg some (write_FL (s ^^ t) (Z m n) (q + 1019 - r) hne h52 hu)

theorem div_zero_left {x y : Nat} {s t : Bool} {q n r : Nat} (hx : Rd x s 0 q) (hy : Rd y t n r) (hn : n ≠ 0) : double.div x y = some (double.word (s ^^ t) 0) := by
  unfold Rd at hx hy
  unfold Format.div
  rw [hx, hy]
  unfold Datum.quotient
  simp only
  rw [if_neg hn]
  simp [write_zero]

theorem div_zero_zero {x y : Nat} {s t : Bool} {q r : Nat} (hx : Rd x s 0 q) (hy : Rd y t 0 r) : double.div x y = none := by
  unfold Rd at hx hy
  unfold Format.div
  rw [hx, hy]
  unfold Datum.quotient
  simp

/-! ### the root -/
/-- the greatest number whose square is not above n -/
def isq (n : Nat) : Nat := Datum.rootFrom n (n.log2 / 2 + 1) 0

theorem rootFrom_spec (n : Nat) : ∀ (todo root : Nat), root * root ≤ n → n < (root + 2 ^ todo) * (root + 2 ^ todo) →
    Datum.rootFrom n todo root * Datum.rootFrom n todo root ≤ n ∧ n < (Datum.rootFrom n todo root + 1) * (Datum.rootFrom n todo root + 1)
  | 0, root, h1, h2 => by
    unfold Datum.rootFrom
    exact ⟨h1, by simpa using h2⟩
  | todo + 1, root, h1, h2 => by
    unfold Datum.rootFrom
    simp only [Nat.shiftLeft_eq, Nat.one_mul]
    by_cases hc : (root + 2 ^ todo) * (root + 2 ^ todo) ≤ n
    · rw [if_pos hc]
      refine rootFrom_spec n todo _ hc ?_
      have e : root + 2 ^ todo + 2 ^ todo = root + 2 ^ (todo + 1) := by rw [Nat.pow_succ]; omega
      rw [e]; exact h2
    · rw [if_neg hc]
      exact rootFrom_spec n todo _ h1 (by omega)

theorem isq_spec (n : Nat) : isq n * isq n ≤ n ∧ n < (isq n + 1) * (isq n + 1) := by
  unfold isq
  refine rootFrom_spec n _ 0 (by simp) ?_
  rw [Nat.zero_add, ← Nat.pow_add]
  by_cases h : n = 0
  · subst h; exact Nat.two_pow_pos _
  · exact Nat.lt_of_lt_of_le Nat.lt_log2_self (Nat.pow_le_pow_right (by decide) (by omega))

/-- the root's digits, the last one telling of a rest -/
def W (m b : Nat) : Nat := 2 * isq (m * 2 ^ (56 + b)) + (isq (m * 2 ^ (56 + b)) * isq (m * 2 ^ (56 + b)) != m * 2 ^ (56 + b)).toNat

theorem sqrt_eq {x : Nat} {m q : Nat} (hx : Rd x false m q) (m1 : 2 ^ 52 ≤ m) (m2 : m < 2 ^ 53)
    (h52 : 2 ^ 52 ≤ W m (q % 2) * 2 ^ ((q - q % 2) / 2 + 508)) (hu : (W m (q % 2) * 2 ^ ((q - q % 2) / 2 + 508)).log2 ≤ 2096) :
    double.sqrt x = some (FL false (W m (q % 2) * 2 ^ ((q - q % 2) / 2 + 508))) := by
  unfold Rd at hx
  unfold Format.sqrt
  rw [hx]
  unfold Datum.root
  simp only
  rw [if_neg (by omega), if_neg (by decide)]
  simp only [Option.map_some, log2_norm m1 m2, fb, Nat.shiftLeft_eq]
  have e0 : 2 * (52 + 2) - 52 = 56 := rfl
  simp only [e0]
  have e1 : (((q : Int) - 1074 - ((56 : Nat) : Int)) % 2).toNat = q % 2 := by omega
  rw [e1]
  have e2 : ((q : Int) - 1074 - ((56 + q % 2 : Nat) : Int)) / 2 - 1 = (((q - q % 2) / 2 + 508 : Nat) : Int) - 1074 := by omega
  rw [e2]
  have hne : W m (q % 2) ≠ 0 := by intro h; rw [h, Nat.zero_mul] at h52; simp at h52
  exact congrArg some (write_FL false (W m (q % 2)) _ hne h52 hu)

theorem sqrt_zero {x : Nat} {s : Bool} {q : Nat} (hx : Rd x s 0 q) : double.sqrt x = some (double.word s 0) := by
  unfold Rd at hx
  unfold Format.sqrt
  rw [hx]
  unfold Datum.root
  simp [write_zero]

/-! ### the order -/
theorem compare_mul (a b : Int) (c : Nat) (hc : 0 < c) : compare (a * (c : Int)) (b * (c : Int)) = compare a b := by
  have hc' : (0 : Int) < (c : Int) := by omega
  rcases Int.lt_trichotomy a b with h | h | h
  · rw [Int.compare_eq_lt.2 h, Int.compare_eq_lt.2 (Int.mul_lt_mul_of_pos_right h hc')]
  · rw [h, Int.compare_eq_eq.2 rfl, Int.compare_eq_eq.2 rfl]
  · rw [Int.compare_eq_gt.2 h, Int.compare_eq_gt.2 (Int.mul_lt_mul_of_pos_right h hc')]

theorem order_eq {x y : Nat} {s t : Bool} {m n q r : Nat} (hx : Rd x s m q) (hy : Rd y t n r) : double.order x y = some (compare (sv s (m * 2 ^ q)) (sv t (n * 2 ^ r))) := by
  unfold Rd at hx hy
  unfold Format.order
  rw [hx, hy]
  unfold Datum.order
  simp only
  have e0 : min ((q : Int) - 1074) ((r : Int) - 1074) = ((min q r : Nat) : Int) - 1074 := by omega
  rw [e0]
  have e1 : ((q : Int) - 1074 - (((min q r : Nat) : Int) - 1074)).toNat = q - min q r := by omega
  have e2 : ((r : Int) - 1074 - (((min q r : Nat) : Int) - 1074)).toNat = r - min q r := by omega
  rw [e1, e2, signed_eq, signed_eq]
  have f1 : sv s (m * 2 ^ q) = sv s (m * 2 ^ (q - min q r)) * ((2 ^ (min q r) : Nat) : Int) := by
    rw [← sv_mul, Nat.mul_assoc, ← Nat.pow_add]; congr 3; omega
  have f2 : sv t (n * 2 ^ r) = sv t (n * 2 ^ (r - min q r)) * ((2 ^ (min q r) : Nat) : Int) := by
    rw [← sv_mul, Nat.mul_assoc, ← Nat.pow_add]; congr 3; omega
  rw [f1, f2, compare_mul _ _ _ (Nat.two_pow_pos _)]
end Go.Proofs.Qxb6614725a.Fl
