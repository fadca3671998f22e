/-
  THE WALK of zzMiddle: four rounds copy the corners and the normals; then the boundary, its middle, the three numbers.
-/
import Derived.Test.Qxb6614725aZMid
import Derived.Laws.CopyRow
import Derived.LoopN
namespace Go.Proofs.Qxb6614725a
open Go.RowKit
attribute [local go_sem] run_store_float

section
variable {P : Program}
theorem run_loadVar_part (w : World) (g o : Nat) (t ty : TypeId) (cs : Array Value) (fr : Nat × Nat) (d : TypeDesc) (vs : List Value) (hg : w.heap[g]? = some (.cells cs t fr))
    (hu : P.underlying ty = some d) (hd : (match d with | .struct _ | .array _ _ => true | _ => false) = true) (hi : (P.info? ty).map (·.size) = some vs.length)
    (hc : ∀ j v, vs[j]? = some v → cs[o + j]? = some v) :
    (loadVar ty ⟨g, o, none⟩).run P w = .ok (.agg vs.toArray) w := by
  have hl : (loadCells ⟨g, o, none⟩ vs.length).run P w = .ok vs.toArray w :=
    run_loadCells_list (P := P) w ⟨g, o, none⟩ vs (fun j v hv => by
      have hadd : (⟨g, o, none⟩ : Addr).add j = ⟨g, o + j, none⟩ := by unfold Addr.add; split <;> simp_all
      rw [hadd, cell_of_row w g _ cs t fr hg]
      exact hc j v hv)
  cases hq : P.info? ty with
  | none => simp [hq] at hi
  | some i =>
    have hs : i.size = vs.length := by simpa [hq] using hi
    have hagg : (isAgg ty).run P w = .ok true w := by
      unfold isAgg
      rw [Sem.run_bind, run_underlying hu w]
      cases d <;> simp_all
    simp [loadVar, Sem.run_bind, hagg, sizeOf, typeInfo, hq, hs, hl]

theorem wpList_load_part {ops : Array Oper} {rest : List Oper} {op : Oper} {a : Act} {w : World} {Q : Exit → Act → World → Prop} (hgd : op.guard = none) (ty : TypeId) (x : Operand) (ho : op.op = .load ty x)
    (g o : Nat) (hx : a.eval x = .pointer (some ⟨g, o, none⟩)) (t : TypeId) (cs : Array Value) (fr : Nat × Nat) (d : TypeDesc) (vs : List Value) (hg : w.heap[g]? = some (.cells cs t fr))
    (hu : P.underlying ty = some d) (hd : (match d with | .struct _ | .array _ _ => true | _ => false) = true) (hi : (P.info? ty).map (·.size) = some vs.length)
    (hc : ∀ j v, vs[j]? = some v → cs[o + j]? = some v)
    (h : wpList P ops Q rest (a.put op.dst (.agg vs.toArray)) w) : wpList P ops Q (op :: rest) a w := by
  refine wpList_plain hgd fun K hK => ?_
  unfold Oper.wp execOp
  simp only [ho, hx, Instr.loadAt, Instr.sureAddr, Sem.run_bind, Sem.run_pure, Result.andThen_ok, run_loadVar_part w g o t ty cs fr d vs hg hu hd hi hc]
  exact hK _ _ h

theorem run_storeVar_part (w : World) (g o : Nat) (t ty : TypeId) (old new : Array Value) (vs : Array Value) (hg : w.heap[g]? = some (.cells old t (0, 0))) (hi : (P.info? ty).map (·.size) = some vs.size)
    (ho : o + vs.size ≤ old.size) (h1 : vs.all (·.oneCell') = true) (hn : new.toList = old.toList.take o ++ vs.toList ++ old.toList.drop (o + vs.size)) :
    (storeVar ty ⟨g, o, none⟩ (.agg vs)).run P w = .ok () (w.setRow g new) := by
  have := run_storeCells_at (P := P) g o t vs.toList 0 old w hg (by simp; omega) (fun v hv => (Array.all_eq_true_iff_forall_mem.1 h1) v (by simpa using hv))
  simp only [Nat.add_zero, Array.length_toList] at this
  rw [← hn, Array.toArray_toList] at this
  cases hq : P.info? ty with
  | none => simp [hq] at hi
  | some i =>
    have hs : vs.size = i.size := by simp [hq] at hi; omega
    simp [storeVar, sizeOf, typeInfo, hq, Value.cells, hs, this]

theorem wpList_store_part {ops : Array Oper} {rest : List Oper} {op : Oper} {a : Act} {w : World} {Q : Exit → Act → World → Prop} (hgd : op.guard = none) (ty : TypeId) (x y : Operand) (hop : op.op = .store ty x y)
    (g o : Nat) (vs : Array Value) (hx : a.eval x = .pointer (some ⟨g, o, none⟩)) (hy : a.eval y = .agg vs)
    (t : TypeId) (old new : Array Value) (hg : w.heap[g]? = some (.cells old t (0, 0))) (hi : (P.info? ty).map (·.size) = some vs.size)
    (ho : o + vs.size ≤ old.size) (h1 : vs.all (·.oneCell') = true) (hn : new.toList = old.toList.take o ++ vs.toList ++ old.toList.drop (o + vs.size))
    (h : wpList P ops Q rest (a.put op.dst undef) (w.setRow g new)) : wpList P ops Q (op :: rest) a w := by
  refine wpList_plain hgd fun K hK => ?_
  unfold Oper.wp execOp
  simp only [hop, hx, hy, Instr.storeAt, Instr.sureAddr, Sem.run_bind, Sem.run_pure, Result.andThen_ok, run_storeVar_part w g o t ty old new vs hg hi ho h1 hn]
  exact hK _ _ h
end

/-- twelve floats, of which the first 3 k are known -/
def part (f : Nat → Nat) (k : Nat) : Array Value := ((List.range 12).map fun i => if i < 3 * k then Value.float .f64 (f i) else .float .f64 0).toArray
/-- twelve floats -/
def full (f : Nat → Nat) : Array Value := ((List.range 12).map fun i => Value.float .f64 (f i)).toArray

theorem part_step (f : Nat → Nat) (k : Nat) (hk : k < 4) : (part f (k + 1)).toList = (part f k).toList.take (3 * k) ++ (#[.float .f64 (f (3 * k)), .float .f64 (f (3 * k + 1)), .float .f64 (f (3 * k + 2))] : Array Value).toList ++ (part f k).toList.drop (3 * k + 3) := by
  match k, hk with
  | 0, _ => rfl
  | 1, _ => rfl
  | 2, _ => rfl
  | 3, _ => rfl
theorem part_size (f : Nat → Nat) (k : Nat) : (part f k).size = 12 := by simp [part]
theorem full_size (f : Nat → Nat) : (full f).size = 12 := by simp [full]
theorem full_get (f : Nat → Nat) (i : Nat) (hi : i < 12) : (full f)[i]? = some (.float .f64 (f i)) := by simp [full, hi]
theorem part_full (f : Nat → Nat) : part f 4 = full f := rfl
theorem full_at (f : Nat → Nat) (k : Nat) (hk : k < 4) (j : Nat) (v : Value) (h : [Value.float .f64 (f (3 * k)), .float .f64 (f (3 * k + 1)), .float .f64 (f (3 * k + 2))][j]? = some v) : (full f)[3 * k + j]? = some v := by
  match j, h with
  | 0, h => simp at h; rw [full_get _ _ (by omega), ← h]; rfl
  | 1, h => simp at h; rw [full_get _ _ (by omega), ← h]
  | 2, h => simp at h; rw [full_get _ _ (by omega), ← h]
  | n + 3, h => simp at h

/-- what stands at the round's head -/
def ZS (B : Nat) (c n : Nat → Nat) (i j : Nat) (w : World) : Prop :=
  w.heap[B]? = some (.cells (full c) 32 (0, 0)) ∧ w.heap[B + 1]? = some (.cells (full n) 32 (0, 0)) ∧ w.heap[B + 1 + 1]? = some (.cells #[.float .f64 0, .float .f64 0, .float .f64 0] 31 (0, 0)) ∧ w.heap[B + 1 + 1 + 1]? = some (.cells (part c i) 58 (0, 0)) ∧ w.heap[B + 1 + 1 + 1 + 1]? = some (.cells (part n j) 58 (0, 0))

theorem zs_keep {B : Nat} {c n : Nat → Nat} {i j : Nat} {w w' : World} (h : ZS B c n i j w) (hb : Below w.heap.size w w') : ZS B c n i j w' := by
  obtain ⟨h0, h1, h2, h3, h4⟩ := h
  exact ⟨(hb.block _ (lt_of_heap' h0)).trans h0, (hb.block _ (lt_of_heap' h1)).trans h1, (hb.block _ (lt_of_heap' h2)).trans h2, (hb.block _ (lt_of_heap' h3)).trans h3, (hb.block _ (lt_of_heap' h4)).trans h4⟩
theorem zs_c {B : Nat} {c n : Nat → Nat} {i j : Nat} {w : World} (h : ZS B c n i j w) (i' : Nat) : ZS B c n i' j (w.setRow (B + 1 + 1 + 1) (part c i')) := by
  obtain ⟨h0, h1, h2, h3, h4⟩ := h
  refine ⟨?_, ?_, ?_, setRow_heap _ _ _ _ _ _ h3, ?_⟩
  all_goals (rw [setRow_other _ _ _ _ (by omega)]; assumption)
theorem zs_n {B : Nat} {c n : Nat → Nat} {i j : Nat} {w : World} (h : ZS B c n i j w) (j' : Nat) : ZS B c n i j' (w.setRow (B + 1 + 1 + 1 + 1) (part n j')) := by
  obtain ⟨h0, h1, h2, h3, h4⟩ := h
  refine ⟨?_, ?_, ?_, ?_, setRow_heap _ _ _ _ _ _ h4⟩
  all_goals (rw [setRow_other _ _ _ _ (by omega)]; assumption)
theorem size31 : (Try.prog.info? 31).map (·.size) = some 3 := by kernel_rfl

/-- what is known of the boundary's middle -/
def MidOf (c n : Nat → Nat) (P : Nat → Nat → Nat → Prop) : Prop := ∃ Z : Array Value, Z.size = 24 ∧ Z.all (·.oneCell') = true ∧ Try.prog.built 63 [(0, .agg (full c)), (1, .agg (full n))] = some Z ∧ ∀ W, Calls Try.prog 40 #[.agg Z] W fun e w' => ∃ a b c, e = .returned (V3 a b c) ∧ P a b c ∧ Below W.heap.size W w'

theorem zs_start (c n : Nat → Nat) (w : World) : ZS w.heap.size c n 0 0 (((((w.alloc (.cells (full c) 32)).alloc (.cells (full n) 32)).alloc (.cells #[.float .f64 0, .float .f64 0, .float .f64 0] 31)).alloc (.cells (part c 0) 58)).alloc (.cells (part n 0) 58)) := by
  refine ⟨?_, ?_, ?_, ?_, ?_⟩
  · rw [Below.heap_alloc _ _ _ (by simp <;> omega), Below.heap_alloc _ _ _ (by simp <;> omega), Below.heap_alloc _ _ _ (by simp <;> omega), Below.heap_alloc _ _ _ (by simp <;> omega)]; exact heap_alloc_new w _
  · rw [Below.heap_alloc _ _ _ (by simp <;> omega), Below.heap_alloc _ _ _ (by simp <;> omega), Below.heap_alloc _ _ _ (by simp <;> omega)]; exact heap_alloc2_new w _ _
  · rw [Below.heap_alloc _ _ _ (by simp <;> omega), Below.heap_alloc _ _ _ (by simp <;> omega)]
    have h := heap_alloc_new ((w.alloc (.cells (full c) 32)).alloc (.cells (full n) 32)) (.cells #[.float .f64 0, .float .f64 0, .float .f64 0] 31)
    simp only [World.size_alloc] at h
    exact h
  · rw [Below.heap_alloc _ _ _ (by simp <;> omega)]
    have h := heap_alloc_new (((w.alloc (.cells (full c) 32)).alloc (.cells (full n) 32)).alloc (.cells #[.float .f64 0, .float .f64 0, .float .f64 0] 31)) (.cells (part c 0) 58)
    simp only [World.size_alloc] at h
    exact h
  · have h := heap_alloc_new ((((w.alloc (.cells (full c) 32)).alloc (.cells (full n) 32)).alloc (.cells #[.float .f64 0, .float .f64 0, .float .f64 0] 31)).alloc (.cells (part c 0) 58)) (.cells (part n 0) 58)
    simp only [World.size_alloc] at h
    exact h

theorem zs_size {B : Nat} {c n : Nat → Nat} {i j : Nat} {w : World} (h : ZS B c n i j w) : B ≤ w.heap.size := Nat.le_of_lt (lt_of_heap' h.1)

theorem below_round {B : Nat} {w W u v : World} {C N : Array Value} (hs : B ≤ W.heap.size) (h : Below B w W) (p : Below W.heap.size W u) (q : Below (u.setRow (B + 1 + 1 + 1) C).heap.size (u.setRow (B + 1 + 1 + 1) C) v) : Below B w (v.setRow (B + 1 + 1 + 1 + 1) N) := by
  have h1 : Below B w u := h.trans (p.mono hs)
  have h2 := below_setRow' h1 (g := B + 1 + 1 + 1) (by omega) C
  have h3 := p.size
  exact below_setRow' (h2.trans (q.mono (by rw [size_setRow]; omega))) (by omega) N

set_option maxRecDepth 100000 in
set_option maxHeartbeats 2000000 in
theorem zz_t (c n : Nat → Nat) (P : Nat → Nat → Nat → Prop) (hM : MidOf c n P) (w : World) :
    Calls Try.prog 15 #[.agg (full c), .agg (full n)] w fun e w' => ∃ x y z, e = .returned (V3 x y z) ∧ P x y z ∧ Below w.heap.size w w' := by
  obtain ⟨Z, h24, hall, hbu, hmid⟩ := hM
  have hBt : Hid (∀ W, Calls Try.prog 34 #[.agg (full c), .agg (full n)] W fun e w' => e = .returned (.agg Z) ∧ Below W.heap.size W w') := fun W => boundary_t (full c) (full n) Z (full_size c) (full_size n) h24 hall hbu W
  have hMt : Hid (∀ W, Calls Try.prog 33 #[.agg Z] W fun e w' => ∃ a b c, e = .returned (V3 a b c) ∧ P a b c ∧ Below W.heap.size W w') := fun W => zzmiddle_t Z h24 P hmid W
  clear h24 hall hbu hmid
  obtain ⟨C, hC⟩ : ∃ C, C = full c := ⟨_, rfl⟩
  obtain ⟨N, hN⟩ : ∃ N, N = full n := ⟨_, rfl⟩
  rw [← hC, ← hN]
  have HC : Hid (C = full c) := hC
  have HN : Hid (N = full n) := hN
  clear hC hN
  go_enter Try.func15, Try.ntmps15
  go_wp2_with fail
  have hz0' := zs_start c n w
  have hb0' : Below w.heap.size w (((((w.alloc (.cells (full c) 32)).alloc (.cells (full n) 32)).alloc (.cells #[.float .f64 0, .float .f64 0, .float .f64 0] 31)).alloc (.cells (part c 0) 58)).alloc (.cells (part n 0) 58)) := ((((((Below.refl _ w).alloc (Nat.le_refl _) _).alloc (by simp) _).alloc (by simp <;> omega) _).alloc (by simp <;> omega) _).alloc (by simp <;> omega) _)
  have hC := HC.out
  have hN := HN.out
  clear HC HN
  subst hC hN
  rw [show part c 0 = part n 0 from rfl] at hz0' hb0'
  obtain ⟨W0, hW0⟩ : ∃ W, W = (((((w.alloc (.cells (full c) 32)).alloc (.cells (full n) 32)).alloc (.cells #[.float .f64 0, .float .f64 0, .float .f64 0] 31)).alloc (.cells (part n 0) 58)).alloc (.cells (part n 0) 58)) := ⟨_, rfl⟩
  rw [← hW0] at hz0' hb0'
  obtain ⟨B, hB⟩ : ∃ B, B = w.heap.size := ⟨_, rfl⟩
  rw [← hB] at hz0' hb0'
  change Code.wp _ _ _ _ (((((w.alloc (.cells (full c) 32)).alloc (.cells (full n) 32)).alloc (.cells #[.float .f64 0, .float .f64 0, .float .f64 0] 31)).alloc (.cells (part n 0) 58)).alloc (.cells (part n 0) 58))
  rw [← hW0, ← hB]
  have hz0 : Hid (ZS B c n 0 0 W0) := hz0'
  have hb0 : Hid (Below B w W0) := hb0'
  have HB : Hid (B = w.heap.size) := hB
  clear hz0' hb0' hW0 hB
  refine wp_loop_rounds 5 ?_
  rw [rounds_succ]
  go_wp2_with (first
    | (refine wpList_load_part rfl 31 (.tmp 17) rfl B 0 rfl 32 (full c) (0, 0) _ [.float .f64 (c 0), .float .f64 (c 1), .float .f64 (c 2)] hz0.out.1 Try.underlying31 rfl size31 (full_at c 0 (by decide)) ?_)
    | (refine wpList_load_part rfl 31 (.tmp 23) rfl (B + 1) 0 rfl 32 (full n) (0, 0) _ [.float .f64 (n 0), .float .f64 (n 1), .float .f64 (n 2)] (zs_c (zs_keep hz0.out p0.out) 1).2.1 Try.underlying31 rfl size31 (full_at n 0 (by decide)) ?_)
    | (go_at_call_of 24 (c 0); refine (vecOf_t (c 0) (c 1) (c 2) _).mono ?_; rintro e u0 ⟨rfl, p0'⟩; have p0 : Hid (Below W0.heap.size W0 u0) := p0'; clear p0')
    | (go_at_call_of 24 (n 0); refine (vecOf_t (n 0) (n 1) (n 2) _).mono ?_; rintro e v0 ⟨rfl, q0'⟩; have q0 : Hid (Below (u0.setRow (B + 1 + 1 + 1) (part c 1)).heap.size (u0.setRow (B + 1 + 1 + 1) (part c 1)) v0) := q0'; clear q0')
    | (refine wpList_store_part rfl 49 (.tmp 20) (.tmp 19) rfl (B + 1 + 1 + 1) 0 #[.float .f64 (c 0), .float .f64 (c 1), .float .f64 (c 2)] rfl rfl 58 (part c 0) (part c 1) (zs_keep hz0.out p0.out).2.2.2.1 size49 (by rw [part_size]; simp) (by simp [Value.oneCell']) (part_step c 0 (by decide)) ?_)
    | (refine wpList_store_part rfl 49 (.tmp 26) (.tmp 25) rfl (B + 1 + 1 + 1 + 1) 0 #[.float .f64 (n 0), .float .f64 (n 1), .float .f64 (n 2)] rfl rfl 58 (part n 0) (part n 1) (zs_keep (zs_c (zs_keep hz0.out p0.out) 1) q0.out).2.2.2.2 size49 (by rw [part_size]; simp) (by simp [Value.oneCell']) (part_step n 0 (by decide)) ?_))
  obtain ⟨W1, hW1⟩ : ∃ W, W = v0.setRow (B + 1 + 1 + 1 + 1) (part n 1) := ⟨_, rfl⟩
  have hz1 : Hid (ZS B c n 1 1 W1) := by rw [hW1]; exact zs_n (zs_keep (zs_c (zs_keep hz0.out p0.out) 1) q0.out) 1
  have hb1 : Hid (Below B w W1) := by rw [hW1]; exact below_round (zs_size hz0.out) hb0.out p0.out q0.out
  rw [← hW1]
  clear hW1 hz0 hb0 p0 q0
  rw [rounds_succ]
  go_wp2_with (first
    | (refine wpList_load_part rfl 31 (.tmp 17) rfl B 3 rfl 32 (full c) (0, 0) _ [.float .f64 (c 3), .float .f64 (c 4), .float .f64 (c 5)] hz1.out.1 Try.underlying31 rfl size31 (full_at c 1 (by decide)) ?_)
    | (refine wpList_load_part rfl 31 (.tmp 23) rfl (B + 1) 3 rfl 32 (full n) (0, 0) _ [.float .f64 (n 3), .float .f64 (n 4), .float .f64 (n 5)] (zs_c (zs_keep hz1.out p1.out) 2).2.1 Try.underlying31 rfl size31 (full_at n 1 (by decide)) ?_)
    | (go_at_call_of 24 (c 3); refine (vecOf_t (c 3) (c 4) (c 5) _).mono ?_; rintro e u1 ⟨rfl, p1'⟩; have p1 : Hid (Below W1.heap.size W1 u1) := p1'; clear p1')
    | (go_at_call_of 24 (n 3); refine (vecOf_t (n 3) (n 4) (n 5) _).mono ?_; rintro e v1 ⟨rfl, q1'⟩; have q1 : Hid (Below (u1.setRow (B + 1 + 1 + 1) (part c 2)).heap.size (u1.setRow (B + 1 + 1 + 1) (part c 2)) v1) := q1'; clear q1')
    | (refine wpList_store_part rfl 49 (.tmp 20) (.tmp 19) rfl (B + 1 + 1 + 1) 3 #[.float .f64 (c 3), .float .f64 (c 4), .float .f64 (c 5)] rfl rfl 58 (part c 1) (part c 2) (zs_keep hz1.out p1.out).2.2.2.1 size49 (by rw [part_size]; simp) (by simp [Value.oneCell']) (part_step c 1 (by decide)) ?_)
    | (refine wpList_store_part rfl 49 (.tmp 26) (.tmp 25) rfl (B + 1 + 1 + 1 + 1) 3 #[.float .f64 (n 3), .float .f64 (n 4), .float .f64 (n 5)] rfl rfl 58 (part n 1) (part n 2) (zs_keep (zs_c (zs_keep hz1.out p1.out) 2) q1.out).2.2.2.2 size49 (by rw [part_size]; simp) (by simp [Value.oneCell']) (part_step n 1 (by decide)) ?_))
  obtain ⟨W2, hW2⟩ : ∃ W, W = v1.setRow (B + 1 + 1 + 1 + 1) (part n 2) := ⟨_, rfl⟩
  have hz2 : Hid (ZS B c n 2 2 W2) := by rw [hW2]; exact zs_n (zs_keep (zs_c (zs_keep hz1.out p1.out) 2) q1.out) 2
  have hb2 : Hid (Below B w W2) := by rw [hW2]; exact below_round (zs_size hz1.out) hb1.out p1.out q1.out
  rw [← hW2]
  clear hW2 hz1 hb1 p1 q1
  rw [rounds_succ]
  go_wp2_with (first
    | (refine wpList_load_part rfl 31 (.tmp 17) rfl B 6 rfl 32 (full c) (0, 0) _ [.float .f64 (c 6), .float .f64 (c 7), .float .f64 (c 8)] hz2.out.1 Try.underlying31 rfl size31 (full_at c 2 (by decide)) ?_)
    | (refine wpList_load_part rfl 31 (.tmp 23) rfl (B + 1) 6 rfl 32 (full n) (0, 0) _ [.float .f64 (n 6), .float .f64 (n 7), .float .f64 (n 8)] (zs_c (zs_keep hz2.out p2.out) 3).2.1 Try.underlying31 rfl size31 (full_at n 2 (by decide)) ?_)
    | (go_at_call_of 24 (c 6); refine (vecOf_t (c 6) (c 7) (c 8) _).mono ?_; rintro e u2 ⟨rfl, p2'⟩; have p2 : Hid (Below W2.heap.size W2 u2) := p2'; clear p2')
    | (go_at_call_of 24 (n 6); refine (vecOf_t (n 6) (n 7) (n 8) _).mono ?_; rintro e v2 ⟨rfl, q2'⟩; have q2 : Hid (Below (u2.setRow (B + 1 + 1 + 1) (part c 3)).heap.size (u2.setRow (B + 1 + 1 + 1) (part c 3)) v2) := q2'; clear q2')
    | (refine wpList_store_part rfl 49 (.tmp 20) (.tmp 19) rfl (B + 1 + 1 + 1) 6 #[.float .f64 (c 6), .float .f64 (c 7), .float .f64 (c 8)] rfl rfl 58 (part c 2) (part c 3) (zs_keep hz2.out p2.out).2.2.2.1 size49 (by rw [part_size]; simp) (by simp [Value.oneCell']) (part_step c 2 (by decide)) ?_)
    | (refine wpList_store_part rfl 49 (.tmp 26) (.tmp 25) rfl (B + 1 + 1 + 1 + 1) 6 #[.float .f64 (n 6), .float .f64 (n 7), .float .f64 (n 8)] rfl rfl 58 (part n 2) (part n 3) (zs_keep (zs_c (zs_keep hz2.out p2.out) 3) q2.out).2.2.2.2 size49 (by rw [part_size]; simp) (by simp [Value.oneCell']) (part_step n 2 (by decide)) ?_))
  obtain ⟨W3, hW3⟩ : ∃ W, W = v2.setRow (B + 1 + 1 + 1 + 1) (part n 3) := ⟨_, rfl⟩
  have hz3 : Hid (ZS B c n 3 3 W3) := by rw [hW3]; exact zs_n (zs_keep (zs_c (zs_keep hz2.out p2.out) 3) q2.out) 3
  have hb3 : Hid (Below B w W3) := by rw [hW3]; exact below_round (zs_size hz2.out) hb2.out p2.out q2.out
  rw [← hW3]
  clear hW3 hz2 hb2 p2 q2
  rw [rounds_succ]
  go_wp2_with (first
    | (refine wpList_load_part rfl 31 (.tmp 17) rfl B 9 rfl 32 (full c) (0, 0) _ [.float .f64 (c 9), .float .f64 (c 10), .float .f64 (c 11)] hz3.out.1 Try.underlying31 rfl size31 (full_at c 3 (by decide)) ?_)
    | (refine wpList_load_part rfl 31 (.tmp 23) rfl (B + 1) 9 rfl 32 (full n) (0, 0) _ [.float .f64 (n 9), .float .f64 (n 10), .float .f64 (n 11)] (zs_c (zs_keep hz3.out p3.out) 4).2.1 Try.underlying31 rfl size31 (full_at n 3 (by decide)) ?_)
    | (go_at_call_of 24 (c 9); refine (vecOf_t (c 9) (c 10) (c 11) _).mono ?_; rintro e u3 ⟨rfl, p3'⟩; have p3 : Hid (Below W3.heap.size W3 u3) := p3'; clear p3')
    | (go_at_call_of 24 (n 9); refine (vecOf_t (n 9) (n 10) (n 11) _).mono ?_; rintro e v3 ⟨rfl, q3'⟩; have q3 : Hid (Below (u3.setRow (B + 1 + 1 + 1) (part c 4)).heap.size (u3.setRow (B + 1 + 1 + 1) (part c 4)) v3) := q3'; clear q3')
    | (refine wpList_store_part rfl 49 (.tmp 20) (.tmp 19) rfl (B + 1 + 1 + 1) 9 #[.float .f64 (c 9), .float .f64 (c 10), .float .f64 (c 11)] rfl rfl 58 (part c 3) (part c 4) (zs_keep hz3.out p3.out).2.2.2.1 size49 (by rw [part_size]; simp) (by simp [Value.oneCell']) (part_step c 3 (by decide)) ?_)
    | (refine wpList_store_part rfl 49 (.tmp 26) (.tmp 25) rfl (B + 1 + 1 + 1 + 1) 9 #[.float .f64 (n 9), .float .f64 (n 10), .float .f64 (n 11)] rfl rfl 58 (part n 3) (part n 4) (zs_keep (zs_c (zs_keep hz3.out p3.out) 4) q3.out).2.2.2.2 size49 (by rw [part_size]; simp) (by simp [Value.oneCell']) (part_step n 3 (by decide)) ?_))
  obtain ⟨W4, hW4⟩ : ∃ W, W = v3.setRow (B + 1 + 1 + 1 + 1) (part n 4) := ⟨_, rfl⟩
  have hz4 : Hid (ZS B c n 4 4 W4) := by rw [hW4]; exact zs_n (zs_keep (zs_c (zs_keep hz3.out p3.out) 4) q3.out) 4
  have hb4 : Hid (Below B w W4) := by rw [hW4]; exact below_round (zs_size hz3.out) hb3.out p3.out q3.out
  rw [← hW4]
  clear hW4 hz3 hb3 p3 q3
  rw [rounds_succ]
  go_wp2_with (first
    | (refine wpList_load_row rfl 58 (.tmp 5) rfl (B + 1 + 1 + 1) rfl 58 (full c) (0, 0) _ hz4.out.2.2.2.1 Try.underlying58 rfl (by rw [full_size]; exact size58) ?_)
    | (refine wpList_load_row rfl 58 (.tmp 6) rfl (B + 1 + 1 + 1 + 1) rfl 58 (full n) (0, 0) _ hz4.out.2.2.2.2 Try.underlying58 rfl (by rw [full_size]; exact size58) ?_)
    | (go_at_call 34; refine (hBt.out _).mono ?_; rintro e u4 ⟨rfl, r1'⟩; have r1 : Hid (Below W4.heap.size W4 u4) := r1'; clear r1')
    | (go_at_call 33; refine (hMt.out _).mono ?_; rintro e u5 ⟨x, y, z, rfl, hP', r2'⟩; have r2 : Hid (Below u4.heap.size u4 u5) := r2'; have hP : Hid (P x y z) := hP'; clear r2' hP')
    | (go_at_call 32; refine (xyz_t x y z _).mono ?_; rintro e u6 ⟨rfl, r3'⟩; have r3 : Hid (Below u5.heap.size u5 u6) := r3'; clear r3')
    | (refine wpList_store_row rfl 31 (.tmp 4) (.tmp 39) rfl (B + 1 + 1) #[.float .f64 x, .float .f64 y, .float .f64 z] rfl rfl 31 #[.float .f64 0, .float .f64 0, .float .f64 0] (zs_keep (zs_keep (zs_keep hz4.out r1.out) r2.out) r3.out).2.2.1 size31 rfl (by simp [Value.oneCell']) ?_))
  have hz := zs_keep (zs_keep (zs_keep hz4.out r1.out) r2.out) r3.out
  refine bodyPost_ret (results_cell_row Try.results15 _ _ (B + 1 + 1) 31 #[.float .f64 x, .float .f64 y, .float .f64 z] (0, 0) _ rfl (setRow_heap _ _ _ _ _ _ hz.2.2.1) Try.underlying31 rfl size31) rfl ⟨x, y, z, rfl, hP.out, ?_⟩
  rw [← HB.out]
  have s1 := r1.out.size
  have s2 := r2.out.size
  have s0 := zs_size hz4.out
  exact below_setRow' (((hb4.out.trans (r1.out.mono s0)).trans (r2.out.mono (by omega))).trans (r3.out.mono (by omega))) (by omega) _
end Go.Proofs.Qxb6614725a
