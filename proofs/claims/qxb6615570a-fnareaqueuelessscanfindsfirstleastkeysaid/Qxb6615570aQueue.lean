/-
  THE WALKS of the queue's functions: Push, ZZpushPart, Less, ZZless, ZZempty and the bound on lengths.
-/
import Derived.Test.Qxb6615570aRows
import Derived.WalkKit
import Derived.WalkSpells
import Derived.WalkLawsBesides
import Derived.Deep.QuietTactic
import Derived.BigQuiet
import Derived.RegionTactic
import Derived.Deep.RegionLaw
namespace Go.Proofs.Qxb6615570a
open Go.RowKit

theorem step_append_own {P : Program} {ops : Array Oper} {o : Oper} {a : Act} {w : World} {K : Act → World → Prop} {Q : Exit → Act → World → Prop} {E : Prop}
    (hg : o.guard = none) (s x : Operand) (t : TypeId) (hop : o.op = Op.call { callee := Callee.builtin Builtin.append, args := #[s, x], argTypes := #[t, t] })
    (base : Nat) (e : TypeId) (i : TypeInfo) (z : Value) (size bytes : Nat) (h1 : P.underlying t = some (.slice e)) (h2 : P.info? e = some i) (h3 : i.zero = some z) (h4 : i.size = size) (h5 : i.bytes = bytes) (h6 : z.cells.size = size) (h7 : 0 < size)
    (v : Value) (n : Nat) (xs : List Value) (hs : a.eval s = v) (hown : w.ownsRow base e size v n xs)
    (ad : Addr) (m c : Nat) (news : List Value) (hx : a.eval x = .slice (some ad) m c) (hn : news.length = m * size) (hc : ∀ j u, news[j]? = some u → w.cell? (ad.add j) = some u) (h1c : ∀ u ∈ news, u.oneCell' = true)
    (b1 : n + m ≤ maxLen) (b2 : (n + m) * bytes ≤ 140737488355328) (hbase : base ≤ w.heap.size)
    (hK : ∀ v' w', w'.ownsRow base e size v' (n + m) (xs ++ news) → w.grownBy w' v.ownBlock → K (a.put o.dst v') w') :
    if Region.wanted o (yielded ops a.tmps) = true then Oper.wp P o a w K Q else E := by
  have hw : Region.wanted o (yielded ops a.tmps) = true := by simp [Region.wanted, hg]
  rw [if_pos hw]
  obtain ⟨v', w', hrun, r1, r2, _⟩ := run_append_own (P := P) w base t o.type e i z size bytes h1 h2 h3 h4 h5 h6 h7 v n xs hown ad m c news hn hc h1c b1 b2 hbase
  unfold Oper.wp
  simp [execOp, hop, resolve, invoke, builtin, hs, hx, hrun, Result.andThen]
  exact hK v' w' r1 r2

theorem Try.info37 : (Try.prog.info? 37).map (fun i => (i.zero, i.size, i.bytes)) = some (some (.agg #[.float .f64 0, .int .i64 0, .int .i64 0, .int .i64 0, .int .u64 0]), 5, 40) := by kernel_rfl

/-- The queue's variable at block q holds a slice of the call's own, k parts long, its cells xs. -/
def Queue (q k : Nat) (xs : List Value) (w : World) : Prop :=
  ∃ v, w.cell? ⟨q, 0, none⟩ = some v ∧ w.frozen? ⟨q, 0, none⟩ = false ∧ w.ownsRow (q + 1) 37 5 v k xs ∧ q + 1 ≤ w.heap.size

theorem assert_run (x : Value) (w : World) : (Instr.typeAssert (.iface 37 x) 20 37 false).run Try.prog w = .ok x w := by kernel_rfl


def five (f : Nat) (i j l d : Int) : List Value := [.float .f64 f, .int .i64 i, .int .i64 j, .int .i64 l, .int .u64 d]

theorem push_step {ops : Array Oper} {o : Oper} {a : Act} {w : World} {K : Act → World → Prop} {Q : Exit → Act → World → Prop} {E : Prop}
    (hg : o.guard = none) (hop : o.op = Op.call { callee := Callee.builtin Builtin.append, args := #[.tmp 7, .tmp 10], argTypes := #[29, 29] })
    (q k : Nat) (v : Value) (xs : List Value) (f : Nat) (i j l d : Int) (hk : k ≤ 1000000) (hv : w.cell? ⟨q, 0, none⟩ = some v) (hf : w.frozen? ⟨q, 0, none⟩ = false) (hown : w.ownsRow (q + 1) 37 5 v k xs) (hq : q + 1 ≤ w.heap.size)
    (hs : a.eval (.tmp 7) = v) (hx : a.eval (.tmp 10) = .slice (some ⟨w.heap.size, 0, none⟩) 1 1)
    (hK : ∀ g cap w', w'.cell? ⟨q, 0, none⟩ = some v → w'.frozen? ⟨q, 0, none⟩ = false → Hid (q + 1 ≤ g ∧ w'.ownsRow (q + 1) 37 5 (.slice (some ⟨g, 0, none⟩) (k + 1) cap) (k + 1) (xs ++ five f i j l d) ∧ Below (q + 1) w w') → K (a.put o.dst (.slice (some ⟨g, 0, none⟩) (k + 1) cap)) w') :
    if Region.wanted o (yielded ops a.tmps) = true then Oper.wp Try.prog o a (w.alloc (.cells #[.float .f64 f, .int .i64 i, .int .i64 j, .int .i64 l, .int .u64 d] 37)).drew K Q else E := by
  obtain ⟨i0, hi, hz0, hz1, hz2⟩ := info_parts Try.info37
  have own1 := (hown.alloc (.cells #[.float .f64 f, .int .i64 i, .int .i64 j, .int .i64 l, .int .u64 d] 37)).drew
  have bel1 : Below (q + 1) w (w.alloc (.cells #[.float .f64 f, .int .i64 i, .int .i64 j, .int .i64 l, .int .u64 d] 37)).drew := ((Below.refl (q + 1) w).alloc hq _).drew
  have hnew : ∀ (j' : Nat) (u : Value), (five f i j l d)[j']? = some u → (w.alloc (.cells #[.float .f64 f, .int .i64 i, .int .i64 j, .int .i64 l, .int .u64 d] 37)).drew.cell? ((⟨w.heap.size, 0, none⟩ : Addr).add j') = some u := by
    intro j' u hu
    have hadd : (⟨w.heap.size, 0, none⟩ : Addr).add j' = ⟨w.heap.size, j', none⟩ := by unfold Addr.add; split <;> simp_all
    rw [hadd]
    show (w.alloc _).cell? _ = _
    rw [cell_of_row (w.alloc _) w.heap.size j' _ 37 (0, 0) (heap_alloc_new w _)]
    simpa [five] using hu
  generalize (w.alloc (.cells #[.float .f64 f, .int .i64 i, .int .i64 j, .int .i64 l, .int .u64 d] 37)).drew = w1 at *
  refine step_append_own hg _ _ 29 hop (q + 1) 37 i0 _ 5 40 Try.underlying29 hi hz0 hz1 hz2 rfl (by decide) v k xs hs own1 _ 1 1 (five f i j l d) hx rfl hnew (by simp [five, Value.oneCell']) (by simp [maxLen]; omega) (by omega) (by have := bel1.size; omega) ?_
  intro v' w' hown' hgrow
  have hne : some q ≠ v.ownBlock := by
    intro e
    have := own1.lt q e.symm
    omega
  rcases hown'.2 with ⟨_, h0⟩ | ⟨g, cap, cur, rfl, hb, _, _⟩
  · omega
  · have hc1 : w1.cell? ⟨q, 0, none⟩ = some v := (bel1.cell (p := ⟨q, 0, none⟩) (by simp)).trans hv
    have hf1 : w1.frozen? ⟨q, 0, none⟩ = false := (bel1.frozen (p := ⟨q, 0, none⟩) (by simp)).trans hf
    have hqs : q < w1.heap.size := by have := bel1.size; omega
    refine hK g cap w' (hgrow.cell hc1 hne) ?_ ⟨hb, hown', ?_⟩
    · rw [← hf1]; exact World.frozen?_of_block (hgrow.block q hqs hne)
    · exact bel1.grown hgrow (by have := bel1.size; omega) (fun k hk' => (own1.lt k hk').1)

theorem push_close {q g k cap : Nat} {xs ys : List Value} {v : Value} {w w' : World} (hc : w'.cell? ⟨q, 0, none⟩ = some v) (hf : w'.frozen? ⟨q, 0, none⟩ = false)
    (H : q + 1 ≤ g ∧ w'.ownsRow (q + 1) 37 5 (.slice (some ⟨g, 0, none⟩) k cap) k (xs ++ ys) ∧ Below (q + 1) w w') :
    Queue q k (xs ++ ys) (w'.setCell ⟨q, 0, none⟩ (.slice (some ⟨g, 0, none⟩) k cap)) ∧ Below q w (w'.setCell ⟨q, 0, none⟩ (.slice (some ⟨g, 0, none⟩) k cap)) := by
  obtain ⟨hg, hown, hb⟩ := H
  refine ⟨⟨_, World.cell?_setCell_same _ _ _ hc, ?_, ?_, ?_⟩, ?_⟩
  · rw [World.frozen?_setCell]; exact hf
  · exact ownsRow_setCell_below hown (by simp) _
  · have := World.block_lt_of_cell? w' _ hc
    simp [World.setCell]; exact this
  · exact (hb.mono (Nat.le_succ q)).setCell (Nat.le_refl q) _

theorem less_t (g n cap a b x y : Nat) (ha : a < n) (hb : b < n) (w : World) (hx : w.cell? ⟨g, a * 5, none⟩ = some (.float .f64 x)) (hy : w.cell? ⟨g, b * 5, none⟩ = some (.float .f64 y)) :
    Calls Try.prog 9 #[.slice (some ⟨g, 0, none⟩) n cap, .int .i64 (a : Int), .int .i64 (b : Int)] w fun e w' => e = .returned (.bool (Ieee.double.order x y == some .lt)) ∧ ∃ nq, w' = w.drewN nq := by
  have ha' : (a : Int) < (n : Int) := by omega
  have hb' : (b : Int) < (n : Int) := by omega
  go_enter Try.func9, Try.ntmps9
  go_wp2
  go_quiet (fail)
  go_wp2
  go_ret
  exact ⟨rfl, _, rfl⟩

theorem zzless_t (g n cap a b x y : Nat) (ha : a < n) (hb : b < n) (w : World) (hx : w.cell? ⟨g, a * 5, none⟩ = some (.float .f64 x)) (hy : w.cell? ⟨g, b * 5, none⟩ = some (.float .f64 y)) :
    Calls Try.prog 7 #[.slice (some ⟨g, 0, none⟩) n cap, .int .i64 (a : Int), .int .i64 (b : Int)] w fun e w' => e = .returned (.bool (Ieee.double.order x y == some .lt)) ∧ ∃ nq, w' = w.drewN nq := by
  go_enter Try.func7, Try.ntmps7
  go_wp2_with fail
  refine (less_t g n cap a b x y ha hb _ hx hy).mono ?_
  rintro e w' ⟨rfl, nq, rfl⟩
  go_wp2_with fail
  go_ret
  exact ⟨rfl, _, rfl⟩

theorem push_t (q k : Nat) (xs : List Value) (f : Nat) (i j l d : Int) (hk : k ≤ 1000000) (w : World) (hQ : Queue q k xs w) :
    Calls Try.prog 8 #[.pointer (some ⟨q, 0, none⟩), .iface 37 (.agg #[.float .f64 f, .int .i64 i, .int .i64 j, .int .i64 l, .int .u64 d])] w fun e w' => e = .returned (.tuple #[]) ∧ Queue q (k + 1) (xs ++ five f i j l d) w' ∧ Below q w w' := by
  obtain ⟨v, hv, hf, hown, hq⟩ := hQ
  have hta := fun (x : Value) (w : World) => assert_run x w
  have hv1 : (w.alloc (.cells #[.float .f64 f, .int .i64 i, .int .i64 j, .int .i64 l, .int .u64 d] 37)).cell? ⟨q, 0, none⟩ = some v :=
    (((Below.refl (q + 1) w).alloc hq _).cell (p := ⟨q, 0, none⟩) (by simp)).trans hv
  have Hown : Hid _ := hown
  clear hown
  go_enter Try.func8, Try.ntmps8
  go_wp2
  go_region_law (refine push_step rfl rfl q k v xs f i j l d hk hv hf Hown.out hq (by simp [Act.eval]) (by simp [Act.eval]) ?_; intro g cap w' hc' hf' HH)
  all_goals go_wp2
  all_goals go_end0
  all_goals exact ⟨rfl, push_close hc' hf' HH.out⟩

theorem zzpush_t (q k : Nat) (xs : List Value) (f : Nat) (i j l d : Int) (hk : k ≤ 1000000) (w : World) (hQ : Queue q k xs w) :
    Calls Try.prog 6 #[.pointer (some ⟨q, 0, none⟩), .float .f64 f, .int .i64 i, .int .i64 j, .int .i64 l, .int .u64 d] w fun e w' => e = .returned (.tuple #[]) ∧ Queue q (k + 1) (xs ++ five f i j l d) w' ∧ Below q w w' := by
  go_enter Try.func6, Try.ntmps6
  go_wp2_with fail
  refine (push_t q k xs f i j l d hk _ hQ).mono ?_
  rintro e w' ⟨rfl, hQ', hb⟩
  go_wp2_with fail
  go_end0
  exact ⟨rfl, hQ', hb⟩

theorem bytes_t (a : Option Addr) (n c : Nat) (hn : n ≤ 1048576) (w : World) :
    Calls Try.prog 4 #[.slice a n c] w fun e w' => e = .returned (.bool true) ∧ w' = w := by
  have h1 : ¬ (1048576 : Int) < (n : Int) := by omega
  go_enter Try.func4, Try.ntmps4
  go_wp2
  go_ret
  exact ⟨rfl, rfl⟩

theorem bytes_big (a : Option Addr) (n c : Nat) (hn : ¬ n ≤ 1048576) (w : World) :
    Calls Try.prog 4 #[.slice a n c] w fun e w' => e = .returned (.bool false) ∧ w' = w := by
  have h1 : (1048576 : Int) < (n : Int) := by omega
  go_enter Try.func4, Try.ntmps4
  go_wp2
  go_ret
  exact ⟨rfl, rfl⟩

theorem empty_t (w : World) : Calls Try.prog 5 #[] w fun e w' => e = .returned (.slice none 0 0) ∧ w' = w := by
  go_enter Try.func5, Try.ntmps5
  go_wp2
  go_ret
  exact ⟨rfl, rfl⟩

end Go.Proofs.Qxb6615570a
