namespace Go.Proofs.Qxb6614725a.Plain

/-! ### The lowest set bit, over natural numbers -/

theorem and_compl (N q : Nat) (h : q < 2 ^ N) : q &&& (2 ^ N - (q + 1)) = 0 := by
  apply Nat.eq_of_testBit_eq
  intro i
  rw [Nat.testBit_and, Nat.testBit_two_pow_sub_succ h]
  cases q.testBit i <;> simp

theorem low_odd (N q : Nat) (h : q < 2 ^ N) : (2 * q + 1) &&& (2 ^ (N + 1) - (2 * q + 1)) = 1 := by
  have e : 2 ^ (N + 1) - (2 * q + 1) = 2 * (2 ^ N - (q + 1)) + 1 := by
    rw [Nat.pow_succ]; omega
  rw [e]
  have hz := and_compl N q h
  apply Nat.eq_of_testBit_eq
  intro i
  cases i with
  | zero => simp
  | succ i =>
    have h1 : (2 * q + 1).testBit (i + 1) = q.testBit i := by
      rw [Nat.testBit_succ]; congr 1; omega
    have h2 : (2 * (2 ^ N - (q + 1)) + 1).testBit (i + 1) = (2 ^ N - (q + 1)).testBit i := by
      rw [Nat.testBit_succ]; congr 1; omega
    rw [Nat.testBit_and, h1, h2, ← Nat.testBit_and, hz, Nat.testBit_succ]

theorem low (k q : Nat) (h : 2 ^ k * (2 * q + 1) < 2 ^ 64) : (2 ^ k * (2 * q + 1)) &&& (2 ^ 64 - 2 ^ k * (2 * q + 1)) = 2 ^ k := by
  have hk : k < 64 := by
    apply Classical.byContradiction
    intro hn
    have : 2 ^ 64 ≤ 2 ^ k := Nat.pow_le_pow_right (by decide) (by omega)
    have : 2 ^ k ≤ 2 ^ k * (2 * q + 1) := Nat.le_mul_of_pos_right _ (by omega)
    omega
  obtain ⟨N, hN⟩ : ∃ N, 64 = k + (N + 1) := ⟨63 - k, by omega⟩
  have e64 : (2 : Nat) ^ 64 = 2 ^ k * 2 ^ (N + 1) := by rw [← Nat.pow_add, ← hN]
  rw [e64] at h ⊢
  have hpos : 0 < 2 ^ k := Nat.two_pow_pos k
  have hq : 2 * q + 1 < 2 ^ (N + 1) := Nat.lt_of_mul_lt_mul_left h
  rw [← Nat.mul_sub]
  have hq' : q < 2 ^ N := by rw [Nat.pow_succ] at hq; omega
  have := low_odd N q hq'
  have sh : ∀ a b : Nat, (2 ^ k * a) &&& (2 ^ k * b) = 2 ^ k * (a &&& b) := by
    intro a b
    have := Nat.shiftLeft_and_distrib (a := a) (b := b) (i := k)
    simp only [Nat.shiftLeft_eq] at this
    rw [Nat.mul_comm _ a, Nat.mul_comm _ b, Nat.mul_comm _ (a &&& b), this]
  rw [sh, this, Nat.mul_one]

theorem split (c : Nat) (h : 0 < c) : ∃ k q, c = 2 ^ k * (2 * q + 1) := by
  induction c using Nat.strongRecOn with
  | _ c ih =>
    by_cases ho : c % 2 = 1
    · exact ⟨0, c / 2, by omega⟩
    · obtain ⟨k, q, e⟩ := ih (c / 2) (by omega) (by omega)
      refine ⟨k + 1, q, ?_⟩
      rw [Nat.pow_succ, Nat.mul_right_comm, ← e]; omega


/-! ### Keys: the end marker at place k, the digits above it q -/

structure Key (c k q : Nat) : Prop where
  eq : c = 2 ^ k * (2 * q + 1)
  top : c < 6 * 2 ^ 61
  even : k % 2 = 0
  le : k ≤ 60

theorem marker : ∀ k, k < 64 → ((2 ^ k &&& 0x1555555555555555 : Nat) ≠ 0 ↔ (k % 2 = 0 ∧ k ≤ 60)) := by
  decide +kernel

def lowb (c : Nat) : Nat := c &&& ((2 ^ 64 - c) % 2 ^ 64)

def ok (c : Nat) : Bool := decide (c / 2 ^ 61 ≤ 5) && (lowb c &&& 0x1555555555555555 != 0)

theorem lowb_zero : lowb 0 = 0 := by decide

theorem lowb_eq (k q : Nat) (h : 2 ^ k * (2 * q + 1) < 2 ^ 64) : lowb (2 ^ k * (2 * q + 1)) = 2 ^ k := by
  unfold lowb
  have hp : 0 < 2 ^ k * (2 * q + 1) := Nat.mul_pos (Nat.two_pow_pos k) (by omega)
  rw [Nat.mod_eq_of_lt (by omega)]
  exact low k q h

theorem exp_lt (k q : Nat) (h : 2 ^ k * (2 * q + 1) < 2 ^ 64) : k < 64 := by
  apply Classical.byContradiction
  intro hn
  have : 2 ^ 64 ≤ 2 ^ k := Nat.pow_le_pow_right (by decide) (by omega)
  have : 2 ^ k ≤ 2 ^ k * (2 * q + 1) := Nat.le_mul_of_pos_right _ (by omega)
  omega

theorem Key.lt {c k q : Nat} (h : Key c k q) : c < 2 ^ 64 := by have := h.top; omega

theorem Key.low {c k q : Nat} (h : Key c k q) : lowb c = 2 ^ k := by
  have := h.lt
  rw [h.eq] at this ⊢
  exact lowb_eq k q this

theorem Key.pos {c k q : Nat} (h : Key c k q) : 0 < c := by
  rw [h.eq]; exact Nat.mul_pos (Nat.two_pow_pos k) (by omega)

theorem Key.ok {c k q : Nat} (h : Key c k q) : ok c = true := by
  have ht := h.top
  have hm := (marker k (by have := h.le; omega)).2 ⟨h.even, h.le⟩
  unfold Plain.ok
  rw [h.low]
  simp only [Bool.and_eq_true, decide_eq_true_eq, bne_iff_ne]
  exact ⟨by omega, hm⟩

theorem key_of_ok {c : Nat} (hc : c < 2 ^ 64) (h : ok c = true) : ∃ k q, Key c k q := by
  unfold ok at h
  simp only [Bool.and_eq_true, decide_eq_true_eq, bne_iff_ne] at h
  obtain ⟨h1, h2⟩ := h
  have hp : 0 < c := by
    apply Nat.pos_of_ne_zero
    intro e
    rw [e, lowb_zero] at h2
    exact h2 (by decide)
  obtain ⟨k, q, e⟩ := split c hp
  have hc' := hc
  rw [e] at hc'
  rw [e, lowb_eq k q hc'] at h2
  have hm := (marker k (exp_lt k q hc')).1 h2
  exact ⟨k, q, e, by omega, hm.1, hm.2⟩

/-- the two places at the ends of a key's block -/
theorem Key.blk {c k q : Nat} (h : Key c k q) : c = 2 ^ (k + 1) * q + 2 ^ k := by
  rw [h.eq, Nat.pow_succ, Nat.mul_add, Nat.mul_one, Nat.mul_assoc]

theorem Key.div {c k q : Nat} (h : Key c k q) : c / 2 ^ (k + 1) = q := by
  have := Nat.two_pow_pos k
  rw [h.blk]
  have hl : 2 ^ k < 2 ^ (k + 1) := by rw [Nat.pow_succ]; omega
  rw [Nat.mul_add_div (Nat.two_pow_pos _), Nat.div_eq_of_lt hl, Nat.add_zero]

def rmin (c : Nat) : Nat := if ok c then c - (lowb c - 1) else 0
def rmax (c : Nat) : Nat := if ok c then c + (lowb c - 1) else 0
def inside (c d : Nat) : Bool := ok d && (decide (rmin c ≤ d) && decide (d ≤ rmax c))

theorem Key.rmin {c k q : Nat} (h : Key c k q) : rmin c = 2 ^ (k + 1) * q + 1 := by
  have := Nat.two_pow_pos k
  have := h.blk
  unfold Plain.rmin
  rw [if_pos h.ok, h.low]; omega

theorem Key.rmax {c k q : Nat} (h : Key c k q) : rmax c = 2 ^ (k + 1) * q + (2 ^ (k + 1) - 1) := by
  have := Nat.two_pow_pos k
  have := h.blk
  unfold Plain.rmax
  rw [if_pos h.ok, h.low]
  rw [Nat.pow_succ] at *; omega

/-- the ancestor order, by places and digits -/
theorem inside_key {c k p d j q : Nat} (hc : Key c k p) (hd : Key d j q) : inside c d = true ↔ (j ≤ k ∧ d / 2 ^ (k + 1) = p) := by
  unfold inside
  rw [hd.ok, hc.rmin, hc.rmax]
  simp only [Bool.true_and, Bool.and_eq_true, decide_eq_true_eq]
  have hB : 0 < 2 ^ (k + 1) := Nat.two_pow_pos _
  generalize hb : 2 ^ (k + 1) = B at *
  have hdm := Nat.div_add_mod d B
  have hml := Nat.mod_lt d hB
  constructor
  · rintro ⟨h1, h2⟩
    have e1 : d / B = p := by
      apply Nat.div_eq_of_lt_le
      · rw [Nat.mul_comm]; omega
      · rw [Nat.add_mul, Nat.one_mul, Nat.mul_comm]; omega
    refine ⟨?_, e1⟩
    apply Classical.byContradiction
    intro hn
    have hdvd : B ∣ d := by
      rw [← hb, hd.eq]
      exact Nat.dvd_trans (Nat.pow_dvd_pow 2 (by omega)) (Nat.dvd_mul_right _ _)
    obtain ⟨t, ht⟩ := hdvd
    have : d / B = t := by rw [ht]; exact Nat.mul_div_cancel_left t hB
    have hpt : p = t := by omega
    subst hpt
    omega
  · rintro ⟨h1, h2⟩
    have hne : d % B ≠ 0 := by
      intro h0
      have hdvd : 2 ^ (j + 1) ∣ d := Nat.dvd_trans (by rw [← hb]; exact Nat.pow_dvd_pow 2 (by omega)) (Nat.dvd_of_mod_eq_zero h0)
      obtain ⟨t, ht⟩ := hdvd
      have h3 := hd.eq
      rw [ht, Nat.pow_succ, Nat.mul_assoc] at h3
      have := Nat.eq_of_mul_eq_mul_left (Nat.two_pow_pos j) h3
      omega
    rw [h2] at hdm
    omega

theorem ok_zero : ok 0 = false := by decide

theorem inside_bad_left {c d : Nat} (h : ok c = false) : inside c d = false := by
  unfold inside rmin rmax
  rw [h]
  by_cases hd : d = 0
  · subst hd; rw [ok_zero]; rfl
  · have : ¬ d ≤ 0 := by omega
    simp [this]

theorem inside_bad_right {c d : Nat} (h : ok d = false) : inside c d = false := by
  unfold inside; rw [h]; rfl

theorem inside_ok {c d : Nat} (h : inside c d = true) : ok c = true ∧ ok d = true := by
  constructor
  · cases e : ok c with
    | true => rfl
    | false => rw [inside_bad_left e] at h; exact h
  · cases e : ok d with
    | true => rfl
    | false => rw [inside_bad_right e] at h; exact h

theorem inside_refl {c : Nat} (hc : c < 2 ^ 64) : inside c c = ok c := by
  cases h : ok c with
  | false => exact inside_bad_left h
  | true =>
    obtain ⟨k, q, hk⟩ := key_of_ok hc h
    exact (inside_key hk hk).2 ⟨Nat.le_refl k, hk.div⟩

theorem inside_trans {c d e : Nat} (hc : c < 2 ^ 64) (hd : d < 2 ^ 64) (he : e < 2 ^ 64) (h1 : inside c d = true) (h2 : inside d e = true) : inside c e = true := by
  obtain ⟨k, p, kc⟩ := key_of_ok hc (inside_ok h1).1
  obtain ⟨j, q, kd⟩ := key_of_ok hd (inside_ok h1).2
  obtain ⟨i, r, ke⟩ := key_of_ok he (inside_ok h2).2
  obtain ⟨a1, a2⟩ := (inside_key kc kd).1 h1
  obtain ⟨b1, b2⟩ := (inside_key kd ke).1 h2
  refine (inside_key kc ke).2 ⟨by omega, ?_⟩
  have hs : 2 ^ (k + 1) = 2 ^ (j + 1) * 2 ^ (k - j) := by rw [← Nat.pow_add]; congr 1; omega
  rw [hs, ← Nat.div_div_eq_div_mul] at a2 ⊢
  rw [b2, ← kd.div, a2]

theorem inside_antisymm {c d : Nat} (hc : c < 2 ^ 64) (hd : d < 2 ^ 64) (h1 : inside c d = true) (h2 : inside d c = true) : c = d := by
  obtain ⟨k, p, kc⟩ := key_of_ok hc (inside_ok h1).1
  obtain ⟨j, q, kd⟩ := key_of_ok hd (inside_ok h1).2
  obtain ⟨a1, a2⟩ := (inside_key kc kd).1 h1
  obtain ⟨b1, _⟩ := (inside_key kd kc).1 h2
  have : j = k := by omega
  subst this
  rw [kd.div] at a2
  rw [kc.blk, kd.blk, a2]

theorem inside_cells {c d : Nat} (hc : c < 2 ^ 64) (hd : d < 2 ^ 64) :
    inside c d = (ok c && (ok d && (decide (lowb d ≤ lowb c) && decide (d / (2 * lowb c) = c / (2 * lowb c))))) := by
  cases h1 : ok c with
  | false => rw [inside_bad_left h1]; rfl
  | true =>
    cases h2 : ok d with
    | false => rw [inside_bad_right h2]; rfl
    | true =>
      obtain ⟨k, p, kc⟩ := key_of_ok hc h1
      obtain ⟨j, q, kd⟩ := key_of_ok hd h2
      have hs : 2 * 2 ^ k = 2 ^ (k + 1) := by rw [Nat.pow_succ, Nat.mul_comm]
      rw [Bool.eq_iff_iff, inside_key kc kd, kc.low, kd.low, hs, kc.div]
      simp only [Bool.true_and, Bool.and_eq_true, decide_eq_true_eq]
      constructor
      · rintro ⟨a, b⟩; exact ⟨Nat.pow_le_pow_right (by decide) a, b⟩
      · rintro ⟨a, b⟩; exact ⟨(Nat.pow_le_pow_iff_right (by decide)).1 a, b⟩

theorem Key.first {c k q : Nat} (h : Key c k q) : Key (Plain.rmin c) 0 (2 ^ k * q) := by
  have := Nat.two_pow_pos k
  have hb := h.blk
  have ht := h.top
  refine ⟨?_, ?_, rfl, by decide⟩
  · rw [h.rmin, Nat.pow_succ]
    rw [Nat.pow_zero, Nat.one_mul, Nat.mul_right_comm, Nat.mul_comm]
  · rw [h.rmin]; omega

theorem Key.last {c k q : Nat} (h : Key c k q) : Key (Plain.rmax c) 0 (2 ^ k * q + (2 ^ k - 1)) := by
  have hp := Nat.two_pow_pos k
  have hb := h.blk
  have ht := h.top
  have hs : 2 ^ (k + 1) = 2 * 2 ^ k := by rw [Nat.pow_succ, Nat.mul_comm]
  refine ⟨?_, ?_, rfl, by decide⟩
  · rw [h.rmax, hs, Nat.mul_assoc]; omega
  · rw [h.rmax]
    have hle := h.le
    have e61 : 6 * 2 ^ 61 = 2 ^ (k + 1) * (6 * 2 ^ (60 - k)) := by
      have : 2 ^ 61 = 2 ^ (k + 1) * 2 ^ (60 - k) := by rw [← Nat.pow_add]; congr 1; omega
      rw [this, Nat.mul_left_comm]
    rw [e61] at ht ⊢
    have hq : 2 ^ (k + 1) * q < 2 ^ (k + 1) * (6 * 2 ^ (60 - k)) := by omega
    have hq' : q < 6 * 2 ^ (60 - k) := Nat.lt_of_mul_lt_mul_left hq
    have : 2 ^ (k + 1) * (q + 1) ≤ 2 ^ (k + 1) * (6 * 2 ^ (60 - k)) := Nat.mul_le_mul_left _ hq'
    rw [Nat.mul_add, Nat.mul_one] at this
    omega

theorem inside_first {c : Nat} (hc : c < 2 ^ 64) : inside c (rmin c) = ok c := by
  cases h : ok c with
  | false => exact inside_bad_left h
  | true =>
    obtain ⟨k, q, hk⟩ := key_of_ok hc h
    refine (inside_key hk hk.first).2 ⟨Nat.zero_le k, ?_⟩
    have := Nat.two_pow_pos k
    have hl : 1 < 2 ^ (k + 1) := by rw [Nat.pow_succ]; omega
    rw [hk.rmin, Nat.mul_add_div (Nat.two_pow_pos _), Nat.div_eq_of_lt hl, Nat.add_zero]

theorem inside_last {c : Nat} (hc : c < 2 ^ 64) : inside c (rmax c) = ok c := by
  cases h : ok c with
  | false => exact inside_bad_left h
  | true =>
    obtain ⟨k, q, hk⟩ := key_of_ok hc h
    refine (inside_key hk hk.last).2 ⟨Nat.zero_le k, ?_⟩
    have := Nat.two_pow_pos (k + 1)
    rw [hk.rmax, Nat.mul_add_div (Nat.two_pow_pos _), Nat.div_eq_of_lt (by omega), Nat.add_zero]

theorem rmin_lt {c : Nat} (hc : c < 2 ^ 64) : rmin c < 2 ^ 64 := by unfold rmin; split <;> omega

theorem rmax_lt {c : Nat} (hc : c < 2 ^ 64) : rmax c < 2 ^ 64 := by
  cases h : ok c with
  | false => unfold rmax; rw [h]; simp
  | true => obtain ⟨k, q, hk⟩ := key_of_ok hc h; exact hk.last.lt

theorem inside_ends {c d : Nat} (hc : c < 2 ^ 64) (hd : d < 2 ^ 64) : inside c d = (inside c (rmin d) && inside c (rmax d)) := by
  cases h : ok d with
  | false =>
    have e : rmin d = 0 := by unfold rmin; rw [h]; rfl
    rw [inside_bad_right h, e, inside_bad_right ok_zero]; rfl
  | true =>
    rw [Bool.eq_iff_iff, Bool.and_eq_true]
    constructor
    · intro h1
      exact ⟨inside_trans hc hd (rmin_lt hd) h1 (by rw [inside_first hd]; exact h), inside_trans hc hd (rmax_lt hd) h1 (by rw [inside_last hd]; exact h)⟩
    · rintro ⟨h1, h2⟩
      unfold inside at h1 h2 ⊢
      simp only [Bool.and_eq_true, decide_eq_true_eq] at h1 h2 ⊢
      have : rmin d ≤ d := by unfold rmin; split <;> omega
      have : d ≤ rmax d := by unfold rmax; rw [h]; simp
      exact ⟨h, by omega, by omega⟩

end Go.Proofs.Qxb6614725a.Plain
