/-
  THE WALKS of the heap's small functions: slices.Clone, ZZheapSnapshot, the readers, Pop, ZZpop, the bound on lengths.
-/
import Derived.Test.Qxb6615497aHeap
import Derived.Outline
namespace Go.Proofs.Qxb6615497a
open Go.RowKit

/-! ### slices.Clone -/
theorem clone_step {ops : Array Oper} {rest : List Oper} {o : Oper} {a : Act} {Q : Exit → Act → World → Prop} (hgd : o.guard = none)
    (hop : o.op = Op.call { callee := Callee.builtin Builtin.append, args := #[.tmp 5, .tmp 6], argTypes := #[26, 26] })
    (base g n cap : Nat) (qb : Nat → Nat) (w : World) (hn : n ≤ 1000000) (hown : w.ownsRow base 29 1 (.slice (some ⟨g, 0, none⟩) n cap) n (ptrs qb n))
    (hs : a.eval (.tmp 5) = .slice (some ⟨w.heap.size, 0, none⟩) 0 0) (hx : a.eval (.tmp 6) = .slice (some ⟨g, 0, none⟩) n cap)
    (hK : ∀ v' w', w'.ownsRow w.heap.size 29 1 v' n (ptrs qb n) → Hid (Below w.heap.size w w') → wpList Try.prog ops Q rest (a.put o.dst v') w') :
    wpList Try.prog ops Q (o :: rest) a (w.alloc (.cells #[] 29)) := by
  obtain ⟨i0, hi, hz0, hz1, hz2⟩ := info_parts Try.info29
  have own0 : (w.alloc (.cells #[] 29)).ownsRow w.heap.size 29 1 (.slice (some ⟨w.heap.size, 0, none⟩) 0 0) 0 [] := World.ownsRow_made w #[] 0 (Nat.le_refl _) (Nat.zero_le _) rfl
  have own1 := hown.alloc (.cells #[] 29)
  have bel1 : Below w.heap.size w (w.alloc (.cells #[] 29)) := (Below.refl _ w).alloc (Nat.le_refl _) _
  generalize w.alloc (.cells #[] 29) = w1 at *
  refine wpList_append_own w1 hgd _ _ 26 hop w.heap.size 29 i0 _ 1 8 Try.underlying26 hi hz0 hz1 hz2 rfl (by decide) _ 0 [] hs own0 _ n cap (ptrs qb n) hx (by simp [ptrs]) (own1.cells rfl) (by simp [ptrs, Value.oneCell']) (by simp [maxLen]; omega) (by omega) bel1.size ?_
  intro v' w' hown' hgrow _
  simp only [Nat.zero_add, List.nil_append] at hown'
  exact hK v' w' hown' (bel1.grown hgrow bel1.size (fun k hk => (own0.lt k hk).1))

theorem clone_t (base n : Nat) (qb : Nat → Nat) (v : Value) (w : World) (hn : n ≤ 1000000) (hown : w.ownsRow base 29 1 v n (ptrs qb n)) :
    Calls Try.prog 16 #[v] w fun e w' => ∃ v', e = .returned v' ∧ w'.ownsRow w.heap.size 29 1 v' n (ptrs qb n) ∧ Below w.heap.size w w' := by
  have hnil := fun (W : World) (a : Option Addr) (n c : Nat) => Lib.run_eql_slice_nil (P := Try.prog) W 26 29 a n c 0 0 Try.underlying26
  rcases hown.2 with ⟨rfl, rfl⟩ | ⟨g, cap, cur, rfl, _⟩
  · clear hown
    go_enter Try.func16, Try.ntmps16
    go_wp2_with fail
    go_ret
    exact ⟨_, rfl, World.ownsRow_nil _ _ _ _, Below.refl _ _⟩
  · have Ho : Hid (w.ownsRow base 29 1 (.slice (some ⟨g, 0, none⟩) n cap) n (ptrs qb n)) := hown
    clear hown
    go_enter Try.func16, Try.ntmps16
    go_wp2_with (at_builtin; refine clone_step rfl rfl base g n cap qb w hn Ho.out rfl rfl ?_; intro v' w' hown' hb')
    go_ret
    exact ⟨_, rfl, hown', hb'.out⟩

theorem snapshot_t (h n : Nat) (host : Nat → ByteArray) (qb : Nat → Nat) (w : World) (hn : n ≤ 1000000) (hH : HeapAt h n host qb w) :
    Calls Try.prog 7 #[.pointer (some ⟨h, 0, none⟩)] w fun e w' => ∃ v', e = .returned v' ∧ w'.ownsRow w.heap.size 29 1 v' n (ptrs qb n) ∧ Below w.heap.size w w' := by
  obtain ⟨v, hv, hown, _⟩ := hH
  have hvc : w.cell? ⟨h, 0, none⟩ = some v := by rw [cell_at hv]; rfl
  have Ho : Hid (w.ownsRow (h + 1) 29 1 v n (ptrs qb n)) := hown
  clear hv hown
  go_enter Try.func7, Try.ntmps7
  go_wp2_with fail
  refine (clone_t (h + 1) n qb v _ hn Ho.out).mono ?_
  rintro e w' ⟨v', rfl, hown', hb'⟩
  have Ho' : Hid (w'.ownsRow w.heap.size 29 1 v' n (ptrs qb n)) := hown'
  clear hown'
  go_wp2_with fail
  go_ret
  exact ⟨_, rfl, Ho'.out, hb'⟩

/-! ### The small readers -/
theorem qheap_t (q : Nat) (hp : Option Addr) (w : World) (hc : w.cell? ⟨q, 4, none⟩ = some (.pointer hp)) :
    Calls Try.prog 10 #[.pointer (some ⟨q, 0, none⟩)] w fun e w' => e = .returned (.pointer hp) ∧ w' = w := by
  go_enter Try.func10, Try.ntmps10
  go_wp2_with fail
  go_ret
  exact ⟨rfl, rfl⟩
theorem qindex_t (q : Nat) (i : Int) (w : World) (hc : w.cell? ⟨q, 5, none⟩ = some (.int .i64 i)) :
    Calls Try.prog 11 #[.pointer (some ⟨q, 0, none⟩)] w fun e w' => e = .returned (.int .i64 i) ∧ w' = w := by
  go_enter Try.func11, Try.ntmps11
  go_wp2_with fail
  go_ret
  exact ⟨rfl, rfl⟩
theorem qhost_t (q : Nat) (s : ByteArray) (w : World) (hc : w.cell? ⟨q, 1, none⟩ = some (.string s)) :
    Calls Try.prog 12 #[.pointer (some ⟨q, 0, none⟩)] w fun e w' => e = .returned (.string s) ∧ w' = w := by
  go_enter Try.func12, Try.ntmps12
  go_wp2_with fail
  go_ret
  exact ⟨rfl, rfl⟩
theorem hlen_t (h : Nat) (a : Option Addr) (n c : Nat) (w : World) (hc : w.cell? ⟨h, 0, none⟩ = some (.slice a n c)) :
    Calls Try.prog 13 #[.pointer (some ⟨h, 0, none⟩)] w fun e w' => e = .returned (.int .i64 (n : Int)) ∧ w' = w := by
  go_enter Try.func13, Try.ntmps13
  go_wp2_with fail
  go_ret
  exact ⟨rfl, rfl⟩
theorem hqueue_t (h g n c j : Nat) (p : Option Addr) (hj : j < n) (w : World) (hc : w.cell? ⟨h, 0, none⟩ = some (.slice (some ⟨g, 0, none⟩) n c)) (hg : w.cell? ⟨g, j, none⟩ = some (.pointer p)) :
    Calls Try.prog 14 #[.pointer (some ⟨h, 0, none⟩), .int .i64 (j : Int)] w fun e w' => e = .returned (.pointer p) ∧ w' = w := by
  have hj' : (j : Int) < (n : Int) := by omega
  go_enter Try.func14, Try.ntmps14
  go_wp2_with fail
  go_ret
  exact ⟨rfl, rfl⟩

/-! ### Pop -/
/-- The memory behind a Pop. -/
def popped (h g n cap q : Nat) (w : World) : World :=
  ((w.setCell ⟨g, n, none⟩ (.pointer none)).setCell ⟨h, 0, none⟩ (.slice (some ⟨g, 0, none⟩) n cap)).setCell ⟨q, 4, none⟩ (.pointer none)

theorem pop_t (h g n cap q : Nat) (hn : n < cap) (hm : cap ≤ maxLen) (p : Option Addr) (w : World) (hc : w.cell? ⟨h, 0, none⟩ = some (.slice (some ⟨g, 0, none⟩) (n + 1) cap)) (hf : w.frozen? ⟨h, 0, none⟩ = false)
    (hg : w.cell? ⟨g, n, none⟩ = some (.pointer (some ⟨q, 0, none⟩))) (hgf : w.frozen? ⟨g, n, none⟩ = false) (hq : w.cell? ⟨q, 4, none⟩ = some (.pointer p)) (hqf : w.frozen? ⟨q, 4, none⟩ = false)
    (e1 : g ≠ h) (e2 : q ≠ h) (e3 : q ≠ g) :
    Calls Try.prog 17 #[.pointer (some ⟨h, 0, none⟩)] w fun e w' => e = .returned (.iface 29 (.pointer (some ⟨q, 0, none⟩))) ∧ popped h g n cap q w = w' := by
  have f1 : (w.setCell ⟨g, n, none⟩ (.pointer none)).cell? ⟨h, 0, none⟩ = some (.slice (some ⟨g, 0, none⟩) (n + 1) cap) := by
    rw [World.cell?_setCell_other _ _ _ _ (by simp)]; exact hc
  have f2 : ((w.setCell ⟨g, n, none⟩ (.pointer none)).setCell ⟨h, 0, none⟩ (.slice (some ⟨g, 0, none⟩) n cap)).cell? ⟨q, 4, none⟩ = some (.pointer p) := by
    rw [World.cell?_setCell_other _ _ _ _ (by simp), World.cell?_setCell_other _ _ _ _ (by simp)]; exact hq
  have hmm : cap ≤ 9223372036854775807 := by simpa [maxLen] using hm
  go_enter Try.func17, Try.ntmps17
  go_wp2_with fail
  go_ret
  exact ⟨rfl, rfl⟩

theorem assert_ok (p : Option Addr) (w : World) : (Instr.typeAssert (.iface 29 (.pointer p)) 20 29 true).run Try.prog w = .ok (.tuple #[.pointer p, .bool true]) w := by kernel_rfl

theorem zzpop_t (h g n cap q : Nat) (hn : n < cap) (hm : cap ≤ maxLen) (p : Option Addr) (w : World) (hc : w.cell? ⟨h, 0, none⟩ = some (.slice (some ⟨g, 0, none⟩) (n + 1) cap)) (hf : w.frozen? ⟨h, 0, none⟩ = false)
    (hg : w.cell? ⟨g, n, none⟩ = some (.pointer (some ⟨q, 0, none⟩))) (hgf : w.frozen? ⟨g, n, none⟩ = false) (hq : w.cell? ⟨q, 4, none⟩ = some (.pointer p)) (hqf : w.frozen? ⟨q, 4, none⟩ = false)
    (e1 : g ≠ h) (e2 : q ≠ h) (e3 : q ≠ g) :
    Calls Try.prog 9 #[.pointer (some ⟨h, 0, none⟩)] w fun e w' => e = .returned (.pointer (some ⟨q, 0, none⟩)) ∧ popped h g n cap q w = w' := by
  have hta := assert_ok
  go_enter Try.func9, Try.ntmps9
  go_wp2_with fail
  refine (pop_t h g n cap q hn hm p _ hc hf hg hgf hq hqf e1 e2 e3).mono ?_
  rintro e w' ⟨rfl, hw'⟩
  have Hw : Hid (popped h g n cap q w = w') := hw'
  clear hc hf hg hgf hq hqf hw'
  go_wp2_with fail
  go_ret
  exact ⟨rfl, Hw.out⟩

/-! ### The bound on lengths: some answer, and nothing written -/
/-- The hosts in memory. -/
def Hosts (a : Option Addr) (n : Nat) (host : Nat → ByteArray) (w : World) : Prop :=
  ∀ i, i < n → ∃ b off, a = some ⟨b, off, none⟩ ∧ b < w.heap.size ∧ w.cell? ⟨b, off + i, none⟩ = some (.string (host i))

/-- It returned true or false. -/
def SomeBool (e : Ending) : Prop := ∃ b, e = .returned (.bool b)

set_option maxHeartbeats 1000000 in
theorem bytes15_t (a : Option Addr) (n c : Nat) (host : Nat → ByteArray) (w : World) (hH : Hosts a n host w) :
    Calls Try.prog 15 #[.slice a n c] w fun e w' => SomeBool e ∧ w' = w := by
  have HH : Hid (Hosts a n host w) := hH
  clear hH
  by_cases hb : n ≤ 1048576
  · have hb' : ¬ (1048576 : Int) < (n : Int) := by omega
    go_enter Try.func15, Try.ntmps15
    go_wp2_with fail
    go_loop [3, 4] (fun t i => ∃ (k : Nat) (T : Int), k ≤ n ∧ i = .int .i64 k ∧ t = .int .i64 T) (fun _ i => n - (intOf i).toNat)
    case atStart => exact ⟨0, _, Nat.zero_le _, rfl, rfl⟩
    case round =>
      obtain ⟨k, T, hk, rfl, rfl⟩ := hrel
      by_cases hlt : k < n
      · have hlt' : (k : Int) < (n : Int) := by omega
        obtain ⟨b, off, rfl, _, hck⟩ := HH.out k hlt
        go_wp2_with fail
        · go_ret; exact ⟨⟨_, rfl⟩, rfl⟩
        · go_ret; exact ⟨⟨_, rfl⟩, rfl⟩
        · go_round
          case rel => exact ⟨k + 1, _, by omega, by go_num, rfl⟩
          case measure => simp [intOf]; omega
      · have hlt' : decide ((k : Int) < (n : Int)) = false := by simp; omega
        go_wp2_with fail
        go_ret
        exact ⟨⟨_, rfl⟩, rfl⟩
  · have hb' : (1048576 : Int) < (n : Int) := by omega
    go_enter Try.func15, Try.ntmps15
    go_wp2_with fail
    go_ret
    exact ⟨⟨_, rfl⟩, rfl⟩

set_option maxHeartbeats 1000000 in
theorem bytes5_t (a : Option Addr) (n c : Nat) (x : Int) (host : Nat → ByteArray) (w : World) (hH : Hosts a n host w) :
    Calls Try.prog 5 #[.slice a n c, .int .i64 x] w fun e w' => SomeBool e ∧ w' = w := by
  have HH : Hid (Hosts a n host w) := hH
  clear hH
  by_cases hb : n ≤ 1048576
  · have hb' : ¬ (1048576 : Int) < (n : Int) := by omega
    go_enter Try.func5, Try.ntmps5
    go_wp2_with fail
    go_loop [5, 6] (fun t i => ∃ (k : Nat) (T : Int), k ≤ n ∧ i = .int .i64 k ∧ t = .int .i64 T) (fun _ i => n - (intOf i).toNat)
    case atStart => exact ⟨0, _, Nat.zero_le _, rfl, rfl⟩
    case round =>
      obtain ⟨k, T, hk, rfl, rfl⟩ := hrel
      by_cases hlt : k < n
      · have hlt' : (k : Int) < (n : Int) := by omega
        obtain ⟨b, off, rfl, _, hck⟩ := HH.out k hlt
        go_wp2_with fail
        · go_ret; exact ⟨⟨_, rfl⟩, rfl⟩
        · go_ret; exact ⟨⟨_, rfl⟩, rfl⟩
        · go_round
          case rel => exact ⟨k + 1, _, by omega, by go_num, rfl⟩
          case measure => simp [intOf]; omega
      · have hlt' : decide ((k : Int) < (n : Int)) = false := by simp; omega
        go_wp2_with fail
        go_ret
        exact ⟨⟨_, rfl⟩, rfl⟩
  · have hb' : (1048576 : Int) < (n : Int) := by omega
    go_enter Try.func5, Try.ntmps5
    go_wp2_with fail
    go_ret
    exact ⟨⟨_, rfl⟩, rfl⟩
end Go.Proofs.Qxb6615497a
