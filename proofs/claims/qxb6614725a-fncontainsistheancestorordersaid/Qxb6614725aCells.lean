/-
  THE WALKS of the keys' functions: endBit, Face, IsValid, RangeMin, RangeMax, Contains; zzLowBit, zzValidKey, zzInCell: each returns just what the plain function of Qxb6614725aPlain computes, in the world as it was.
-/
import Derived.Test.Qxb6614725aRows
import Derived.Test.Qxb6614725aPlain
import Derived.WalkKit
import Derived.WalkSpells
namespace Go.Proofs.Qxb6614725a
open Go.RowKit

theorem bits_low (c : Nat) (hc : c < 18446744073709551616) : bits BinOp.and IntKind.u64 (c : Int) (IntKind.u64.wrap (-(c : Int))) = ((Plain.lowb c : Nat) : Int) := by
  have e : IntKind.u64.wrap (-(c : Int)) = (((2 ^ 64 - c) % 2 ^ 64 : Nat) : Int) := by
    rw [IntKind.wrap_u64]; omega
  rw [e, u64_and_nat c _ hc (by omega)]
  rfl

theorem lowb_lt (c : Nat) (hc : c < 18446744073709551616) : Plain.lowb c < 18446744073709551616 := by
  unfold Plain.lowb
  exact Nat.lt_of_le_of_lt Nat.and_le_left hc

theorem bits_mark (c : Nat) (hc : c < 18446744073709551616) : bits BinOp.and IntKind.u64 ((Plain.lowb c : Nat) : Int) 1537228672809129301 = ((Plain.lowb c &&& 0x1555555555555555 : Nat) : Int) := by
  have := u64_and_nat (Plain.lowb c) 1537228672809129301 (lowb_lt c hc) (by decide)
  exact this

theorem endBit_t (c : Nat) (hc : c < 18446744073709551616) (w : World) :
    Calls Try.prog 30 #[.int .u64 (c : Int)] w fun e w' => e = .returned (.int .u64 (Plain.lowb c : Nat)) ∧ w' = w := by
  have hb := bits_low c hc
  go_enter Try.func30, Try.ntmps30
  go_wp2
  go_ret
  exact ⟨rfl, rfl⟩

theorem zzLowBit_t (c : Nat) (hc : c < 18446744073709551616) (w : World) :
    Calls Try.prog 29 #[.int .u64 (c : Int)] w fun e w' => e = .returned (.int .u64 (Plain.lowb c : Nat)) ∧ w' = w := by
  have hb := bits_low c hc
  go_enter Try.func29, Try.ntmps29
  go_wp2
  go_ret
  exact ⟨rfl, rfl⟩

theorem face_t (c : Nat) (hc : c < 18446744073709551616) (w : World) :
    Calls Try.prog 39 #[.int .u64 (c : Int)] w fun e w' => e = .returned (.int .i64 ((c : Int) / 2305843009213693952)) ∧ w' = w := by
  go_enter Try.func39, Try.ntmps39
  go_wp2
  go_ret
  exact ⟨rfl, rfl⟩

theorem ok_true (c : Nat) (h1 : (c : Int) / 2305843009213693952 ≤ 5) : Plain.ok c = (((Plain.lowb c &&& 1537228672809129301 : Nat) : Int) != 0) := by
  have : decide (c / 2 ^ 61 ≤ 5) = true := by simp; omega
  unfold Plain.ok
  rw [this, Bool.true_and]
  cases h : (Plain.lowb c &&& 1537228672809129301) with
  | zero => rfl
  | succ n =>
    have : ((n + 1 : Nat) : Int) ≠ 0 := by omega
    simp [bne]; omega

theorem ok_false (c : Nat) (h1 : ¬ (c : Int) / 2305843009213693952 ≤ 5) : Plain.ok c = false := by
  have : decide (c / 2 ^ 61 ≤ 5) = false := by simp; omega
  unfold Plain.ok
  rw [this, Bool.false_and]

theorem isValid_t (c : Nat) (hc : c < 18446744073709551616) (w : World) :
    Calls Try.prog 28 #[.int .u64 (c : Int)] w fun e w' => e = .returned (.bool (Plain.ok c)) ∧ w' = w := by
  have hm := bits_mark c hc
  by_cases h1 : (c : Int) / 2305843009213693952 ≤ 5
  · rw [ok_true c h1]
    go_enter Try.func28, Try.ntmps28
    go_wp2_with (first | (go_at_call 39; refine (face_t c hc _).mono ?_; rintro e w' ⟨rfl, rfl⟩) | (go_at_call 30; refine (endBit_t c hc _).mono ?_; rintro e w' ⟨rfl, rfl⟩))
    go_ret
    exact ⟨rfl, rfl⟩
  · rw [ok_false c h1]
    go_enter Try.func28, Try.ntmps28
    go_wp2_with (first | (go_at_call 39; refine (face_t c hc _).mono ?_; rintro e w' ⟨rfl, rfl⟩))
    go_ret
    exact ⟨rfl, rfl⟩

theorem zzValidKey_t (c : Nat) (hc : c < 18446744073709551616) (w : World) :
    Calls Try.prog 11 #[.int .u64 (c : Int)] w fun e w' => e = .returned (.bool (Plain.ok c)) ∧ w' = w := by
  have hm := bits_mark c hc
  by_cases h1 : (c : Int) / 2305843009213693952 ≤ 5
  · rw [ok_true c h1]
    go_enter Try.func11, Try.ntmps11
    go_wp2_with (first | (go_at_call 29; refine (zzLowBit_t c hc _).mono ?_; rintro e w' ⟨rfl, rfl⟩))
    go_ret
    exact ⟨rfl, rfl⟩
  · rw [ok_false c h1]
    go_enter Try.func11, Try.ntmps11
    go_wp2_with fail
    go_ret
    exact ⟨rfl, rfl⟩

/-! ### RangeMin, RangeMax -/
theorem sub_eq (c : Nat) (hc : c < 18446744073709551616) (h : Plain.ok c = true) :
    IntKind.u64.wrap ((c : Int) - IntKind.u64.wrap (((Plain.lowb c : Nat) : Int) - 1)) = ((Plain.rmin c : Nat) : Int) := by
  obtain ⟨k, q, hk⟩ := Plain.key_of_ok hc h
  have hp : 0 < 2 ^ k := Nat.two_pow_pos k
  have hl := hk.low
  have hb := hk.blk
  have hlt := lowb_lt c hc
  unfold Plain.rmin
  rw [if_pos h, IntKind.wrap_u64, IntKind.wrap_u64]
  omega

theorem add_eq (c : Nat) (hc : c < 18446744073709551616) (h : Plain.ok c = true) :
    IntKind.u64.wrap ((c : Int) + IntKind.u64.wrap (((Plain.lowb c : Nat) : Int) - 1)) = ((Plain.rmax c : Nat) : Int) := by
  obtain ⟨k, q, hk⟩ := Plain.key_of_ok hc h
  have hp : 0 < 2 ^ k := Nat.two_pow_pos k
  have hl := hk.low
  have hlt := lowb_lt c hc
  have hx := Plain.rmax_lt hc
  unfold Plain.rmax at hx ⊢
  rw [if_pos h] at hx ⊢
  rw [IntKind.wrap_u64, IntKind.wrap_u64]
  omega

theorem rangeMin_t (c : Nat) (hc : c < 18446744073709551616) (w : World) :
    Calls Try.prog 12 #[.int .u64 (c : Int)] w fun e w' => e = .returned (.int .u64 (Plain.rmin c : Nat)) ∧ w' = w := by
  cases h : Plain.ok c with
  | true =>
    have hs := sub_eq c hc h
    go_enter Try.func12, Try.ntmps12
    go_wp2_with (first | (go_at_call 28; refine (isValid_t c hc _).mono ?_; rintro e w' ⟨rfl, rfl⟩) | (go_at_call 30; refine (endBit_t c hc _).mono ?_; rintro e w' ⟨rfl, rfl⟩))
    go_ret
    exact ⟨rfl, rfl⟩
  | false =>
    have hs : Plain.rmin c = 0 := by unfold Plain.rmin; rw [h]; rfl
    rw [hs]
    clear hs
    go_enter Try.func12, Try.ntmps12
    go_wp2_with (first | (go_at_call 28; refine (isValid_t c hc _).mono ?_; rintro e w' ⟨rfl, rfl⟩))
    go_ret
    exact ⟨rfl, rfl⟩

theorem rangeMax_t (c : Nat) (hc : c < 18446744073709551616) (w : World) :
    Calls Try.prog 13 #[.int .u64 (c : Int)] w fun e w' => e = .returned (.int .u64 (Plain.rmax c : Nat)) ∧ w' = w := by
  cases h : Plain.ok c with
  | true =>
    have hs := add_eq c hc h
    go_enter Try.func13, Try.ntmps13
    go_wp2_with (first | (go_at_call 28; refine (isValid_t c hc _).mono ?_; rintro e w' ⟨rfl, rfl⟩) | (go_at_call 30; refine (endBit_t c hc _).mono ?_; rintro e w' ⟨rfl, rfl⟩))
    go_ret
    exact ⟨rfl, rfl⟩
  | false =>
    have hs : Plain.rmax c = 0 := by unfold Plain.rmax; rw [h]; rfl
    rw [hs]
    clear hs
    go_enter Try.func13, Try.ntmps13
    go_wp2_with (first | (go_at_call 28; refine (isValid_t c hc _).mono ?_; rintro e w' ⟨rfl, rfl⟩))
    go_ret
    exact ⟨rfl, rfl⟩


/-! ### Contains -/
theorem inside_no {c d : Nat} (h : Plain.ok d = false) : Plain.inside c d = false := Plain.inside_bad_right h
theorem inside_low {c d : Nat} (h : ¬ ((Plain.rmin c : Nat) : Int) ≤ (d : Int)) : Plain.inside c d = false := by
  have h' : ¬ Plain.rmin c ≤ d := by omega
  unfold Plain.inside; simp [h']
theorem inside_mid {c d : Nat} (h0 : Plain.ok d = true) (h : ((Plain.rmin c : Nat) : Int) ≤ (d : Int)) : Plain.inside c d = decide (d ≤ Plain.rmax c) := by
  have h' : Plain.rmin c ≤ d := by omega
  unfold Plain.inside; simp [h0, h']

theorem contains_t (c d : Nat) (hc : c < 18446744073709551616) (hd : d < 18446744073709551616) (w : World) :
    Calls Try.prog 9 #[.int .u64 (c : Int), .int .u64 (d : Int)] w fun e w' => e = .returned (.bool (Plain.inside c d)) ∧ w' = w := by
  cases h : Plain.ok d with
  | false =>
    rw [inside_no h]
    go_enter Try.func9, Try.ntmps9
    go_wp2_with (first | (go_at_call 28; refine (isValid_t d hd _).mono ?_; rintro e w' ⟨rfl, rfl⟩))
    go_ret
    exact ⟨rfl, rfl⟩
  | true =>
    by_cases h1 : ((Plain.rmin c : Nat) : Int) ≤ (d : Int)
    · rw [inside_mid h h1]
      go_enter Try.func9, Try.ntmps9
      go_wp2_with (first | (go_at_call 28; refine (isValid_t d hd _).mono ?_; rintro e w' ⟨rfl, rfl⟩) | (go_at_call 12; refine (rangeMin_t c hc _).mono ?_; rintro e w' ⟨rfl, rfl⟩) | (go_at_call 13; refine (rangeMax_t c hc _).mono ?_; rintro e w' ⟨rfl, rfl⟩))
      go_ret
      exact ⟨rfl, rfl⟩
    · rw [inside_low h1]
      go_enter Try.func9, Try.ntmps9
      go_wp2_with (first | (go_at_call 28; refine (isValid_t d hd _).mono ?_; rintro e w' ⟨rfl, rfl⟩) | (go_at_call 12; refine (rangeMin_t c hc _).mono ?_; rintro e w' ⟨rfl, rfl⟩) | (go_at_call 13; refine (rangeMax_t c hc _).mono ?_; rintro e w' ⟨rfl, rfl⟩))
      go_ret
      exact ⟨rfl, rfl⟩

/-! ### zzInCell -/
def inCell (c d : Nat) : Bool := Plain.ok c && (Plain.ok d && (decide (Plain.lowb d ≤ Plain.lowb c) && decide (d / (2 * Plain.lowb c) = c / (2 * Plain.lowb c))))

/-- the bits from place n upwards -/
theorem and_high (x n : Nat) (hx : x < 18446744073709551616) (hn : n ≤ 64) : x &&& (18446744073709551615 - (2 ^ n - 1)) = x / 2 ^ n * 2 ^ n := by
  have hpow : 2 ^ n ≤ 2 ^ 64 := Nat.pow_le_pow_right (by decide) hn
  have hpos := Nat.two_pow_pos n
  have e : 18446744073709551615 - (2 ^ n - 1) = 2 ^ 64 - ((2 ^ n - 1) + 1) := by omega
  rw [e]
  apply Nat.eq_of_testBit_eq
  intro i
  rw [Nat.testBit_and, Nat.testBit_two_pow_sub_succ (by omega), Nat.testBit_two_pow_sub_one, Nat.testBit_mul_two_pow, Nat.testBit_div_two_pow]
  by_cases hi : i < 64
  · by_cases h2 : n ≤ i
    · have h3 : ¬ i < n := by omega
      simp [hi, h2, h3]
    · have h3 : i < n := by omega
      simp [h2, h3]
  · have hz : x.testBit i = false := Nat.testBit_lt_two_pow (Nat.lt_of_lt_of_le hx (by rw [show 18446744073709551616 = 2 ^ 64 from by decide]; exact Nat.pow_le_pow_right (by decide) (by omega)))
    by_cases h2 : n ≤ i
    · have h4 : i - n + n = i := by omega
      simp [hz, h4]
    · simp [hz, h2]

theorem above_eq (c d : Nat) (hc : c < 18446744073709551616) (hd : d < 18446744073709551616) (h1 : Plain.ok c = true) (h2 : Plain.ok d = true) (h3 : ¬ ((Plain.lowb c : Nat) : Int) < ((Plain.lowb d : Nat) : Int)) :
    (bits BinOp.and IntKind.u64 (d : Int) (bits BinOp.xor IntKind.u64 IntKind.u64.max (IntKind.u64.wrap (IntKind.u64.wrap (2 * ((Plain.lowb c : Nat) : Int)) - 1))) ==
      bits BinOp.and IntKind.u64 (c : Int) (bits BinOp.xor IntKind.u64 IntKind.u64.max (IntKind.u64.wrap (IntKind.u64.wrap (2 * ((Plain.lowb c : Nat) : Int)) - 1)))) = inCell c d := by
  obtain ⟨k, p, kc⟩ := Plain.key_of_ok hc h1
  have hl := kc.low
  have hle := kc.le
  have hpow : 2 ^ (k + 1) ≤ 2 ^ 61 := Nat.pow_le_pow_right (by decide) (by omega)
  have hs : 2 * 2 ^ k = 2 ^ (k + 1) := by rw [Nat.pow_succ, Nat.mul_comm]
  have hpos := Nat.two_pow_pos (k + 1)
  have e1 : IntKind.u64.wrap (IntKind.u64.wrap (2 * ((Plain.lowb c : Nat) : Int)) - 1) = ((2 ^ (k + 1) - 1 : Nat) : Int) := by
    rw [IntKind.wrap_u64, IntKind.wrap_u64, hl]; omega
  have e2 : IntKind.u64.max = ((18446744073709551615 : Nat) : Int) := by decide
  have e3 : (18446744073709551615 ^^^ (2 ^ (k + 1) - 1) : Nat) = 18446744073709551615 - (2 ^ (k + 1) - 1) := by
    have hx : 18446744073709551615 - (2 ^ (k + 1) - 1) = 2 ^ 64 - ((2 ^ (k + 1) - 1) + 1) := by omega
    rw [hx]
    apply Nat.eq_of_testBit_eq
    intro i
    have hlt : 2 ^ (k + 1) - 1 < 2 ^ 64 := by omega
    rw [Nat.testBit_xor, Nat.testBit_two_pow_sub_succ hlt, show (18446744073709551615 : Nat) = 2 ^ 64 - 1 from by decide, Nat.testBit_two_pow_sub_one, Nat.testBit_two_pow_sub_one]
    by_cases hi : i < k + 1
    · have : i < 64 := by omega
      simp [hi, this]
    · simp [hi]
  rw [e1, e2, bits_xor_u64_nat _ _ (by decide) (by omega), e3, u64_and_nat _ _ hd (by omega), u64_and_nat _ _ hc (by omega), and_high d (k + 1) hd (by omega), and_high c (k + 1) hc (by omega)]
  unfold inCell
  rw [h1, h2, hl, hs]
  have h4 : Plain.lowb d ≤ 2 ^ k := by omega
  rw [Bool.eq_iff_iff]
  simp only [h4, decide_true, Bool.true_and, beq_iff_eq, decide_eq_true_eq]
  constructor
  · intro h
    have h' : d / 2 ^ (k + 1) * 2 ^ (k + 1) = c / 2 ^ (k + 1) * 2 ^ (k + 1) := by omega
    exact Nat.eq_of_mul_eq_mul_right hpos h'
  · intro h; rw [h]

theorem zzInCell_t (c d : Nat) (hc : c < 18446744073709551616) (hd : d < 18446744073709551616) (w : World) :
    Calls Try.prog 10 #[.int .u64 (c : Int), .int .u64 (d : Int)] w fun e w' => e = .returned (.bool (inCell c d)) ∧ w' = w := by
  cases h1 : Plain.ok c with
  | false =>
    have hi : inCell c d = false := by unfold inCell; rw [h1]; rfl
    rw [hi]; clear hi
    go_enter Try.func10, Try.ntmps10
    go_wp2_with (first | (go_at_call 11; refine (zzValidKey_t c hc _).mono ?_; rintro e w' ⟨rfl, rfl⟩))
    go_ret
    exact ⟨rfl, rfl⟩
  | true =>
    cases h2 : Plain.ok d with
    | false =>
      have hi : inCell c d = false := by unfold inCell; rw [h2]; simp
      rw [hi]; clear hi
      go_enter Try.func10, Try.ntmps10
      go_wp2_with fail
      refine (zzValidKey_t c hc _).mono ?_
      rintro e w' ⟨rfl, rfl⟩
      go_wp2_with fail
      refine (zzValidKey_t d hd _).mono ?_
      rintro e w' ⟨rfl, rfl⟩
      go_wp2_with fail
      go_ret
      exact ⟨rfl, rfl⟩
    | true =>
      by_cases h3 : ((Plain.lowb c : Nat) : Int) < ((Plain.lowb d : Nat) : Int)
      · have hi : inCell c d = false := by
          have : ¬ Plain.lowb d ≤ Plain.lowb c := by omega
          unfold inCell; simp [this]
        rw [hi]; clear hi
        go_enter Try.func10, Try.ntmps10
        go_wp2_with fail
        refine (zzValidKey_t c hc _).mono ?_
        rintro e w' ⟨rfl, rfl⟩
        go_wp2_with fail
        refine (zzValidKey_t d hd _).mono ?_
        rintro e w' ⟨rfl, rfl⟩
        go_wp2_with fail
        refine (zzLowBit_t c hc _).mono ?_
        rintro e w' ⟨rfl, rfl⟩
        go_wp2_with fail
        refine (zzLowBit_t d hd _).mono ?_
        rintro e w' ⟨rfl, rfl⟩
        go_wp2_with fail
        go_ret
        exact ⟨rfl, rfl⟩
      · have he := above_eq c d hc hd h1 h2 h3
        have He : Hid _ := he
        clear he
        go_enter Try.func10, Try.ntmps10
        go_wp2_with fail
        refine (zzValidKey_t c hc _).mono ?_
        rintro e w' ⟨rfl, rfl⟩
        go_wp2_with fail
        refine (zzValidKey_t d hd _).mono ?_
        rintro e w' ⟨rfl, rfl⟩
        go_wp2_with fail
        refine (zzLowBit_t c hc _).mono ?_
        rintro e w' ⟨rfl, rfl⟩
        go_wp2_with fail
        refine (zzLowBit_t d hd _).mono ?_
        rintro e w' ⟨rfl, rfl⟩
        go_wp2_with fail
        go_ret
        exact ⟨congrArg (fun b => Ending.returned (Value.bool b)) He.out, rfl⟩
end Go.Proofs.Qxb6614725a
