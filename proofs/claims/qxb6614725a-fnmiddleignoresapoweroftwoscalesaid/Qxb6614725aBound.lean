/-
  THE WALKS of ZZnewCellBoundary and ZZmiddle, the arrays held as wholes.
-/
import Derived.Test.Qxb6614725aMiddle
import Derived.Outline
namespace Go.Proofs.Qxb6614725a
open Go.RowKit
attribute [local go_sem] run_store_float

theorem wpList_built {P : Program} {ops : Array Oper} {rest : List Oper} {o : Oper} {a : Act} {w : World} {Q : Exit → Act → World → Prop} (hg : o.guard = none) (t : TypeId) (parts : Array (Nat × Operand)) (ho : o.op = .build t parts)
    (Z : Array Value) (hb : P.built t (parts.map fun (i, x) => (i, a.eval x)).toList = some Z)
    (h : wpList P ops Q rest (a.put o.dst (.agg Z)) w) : wpList P ops Q (o :: rest) a w := by
  refine wpList_build hg t parts ho (by rw [hb]; rfl) ?_
  rw [hb]
  exact h

theorem wpList_store_row {P : Program} {ops : Array Oper} {rest : List Oper} {o : Oper} {a : Act} {w : World} {Q : Exit → Act → World → Prop} (hgd : o.guard = none) (ty : TypeId) (x y : Operand) (ho : o.op = .store ty x y)
    (g : Nat) (cells : Array Value) (hx : a.eval x = .pointer (some ⟨g, 0, none⟩)) (hy : a.eval y = .agg cells)
    (t : TypeId) (old : Array Value) (hg : w.heap[g]? = some (.cells old t (0, 0))) (hi : (P.info? ty).map (·.size) = some cells.size)
    (hold : old.size = cells.size) (h1 : cells.all (·.oneCell') = true)
    (h : wpList P ops Q rest (a.put o.dst undef) (w.setRow g cells)) : wpList P ops Q (o :: rest) a w :=
  wpList_plain hgd fun _ hK => wp_store_row ty x y ho g cells hx hy t old hg hi hold h1 (hK _ _ h)

theorem size58 : (Try.prog.info? 58).map (·.size) = some 12 := by kernel_rfl
theorem size63 : (Try.prog.info? 63).map (·.size) = some 24 := by kernel_rfl
theorem size32 : (Try.prog.info? 32).map (·.size) = some 12 := by kernel_rfl

theorem below_setRow' {B g : Nat} {w0 w : World} (hb : Below B w0 w) (hBg : B ≤ g) (cs : Array Value) : Below B w0 (w.setRow g cs) :=
  hb.trans ⟨rfl, rfl, rfl, by simp [World.setRow], fun k hk => setRow_other w g k cs (by omega)⟩

set_option maxRecDepth 100000 in
set_option maxHeartbeats 1000000 in
theorem boundary_t (X Y Z : Array Value) (hX : X.size = 12) (hY : Y.size = 12) (hZ : Z.size = 24) (h1 : Z.all (·.oneCell') = true) (hb : Try.prog.built 63 [(0, .agg X), (1, .agg Y)] = some Z) (w : World) :
    Calls Try.prog 34 #[.agg X, .agg Y] w fun e w' => e = .returned (.agg Z) ∧ Below w.heap.size w w' := by
  have HX : Hid (X.size = 12) := hX
  have HY : Hid (Y.size = 12) := hY
  have HZ : Hid (Z.size = 24) := hZ
  have H1 : Hid (Z.all (·.oneCell') = true) := h1
  have Hb : Hid (Try.prog.built 63 [(0, .agg X), (1, .agg Y)] = some Z) := hb
  clear hX hY hZ h1 hb
  go_enter Try.func34, Try.ntmps34
  go_wp2_with (first
    | (refine wpList_load_row rfl 58 (.tmp 2) rfl w.heap.size rfl 58 X (0, 0) _ ?a1 Try.underlying58 rfl ?a2 ?_)
    | (refine wpList_load_row rfl 58 (.tmp 3) rfl (w.heap.size + 1) rfl 58 Y (0, 0) _ ?a3 Try.underlying58 rfl ?a4 ?_)
    | (refine wpList_built rfl 63 #[(0, .tmp 5), (1, .tmp 6)] rfl Z ?a8 ?_)
    | (refine wpList_store_row rfl 63 (.tmp 4) (.tmp 7) rfl (w.heap.size + 1 + 1) Z rfl rfl 63 ?old ?a5 ?a6 ?a7 H1.out ?_))
  case a8 => exact Hb.out
  case a2 => rw [HX.out]; exact size58
  case a4 => rw [HY.out]; exact size58
  case a6 => rw [HZ.out]; exact size63
  case a1 => rw [Below.heap_alloc _ _ _ (by simp; omega), Below.heap_alloc _ _ _ (by simp)]; exact heap_alloc_new w _
  case a3 => rw [Below.heap_alloc _ _ _ (by simp)]; exact heap_alloc2_new w _ _
  case a5 =>
    have h := heap_alloc_new ((w.alloc (.cells X 58)).alloc (.cells Y 58)) (Obj.cells (Array.replicate 24 (.float .f64 0)) 63)
    simp only [World.size_alloc] at h
    exact h
  case a7 => rw [HZ.out]; rfl
  have hw3 : Hid ((((w.alloc (.cells X 58)).alloc (.cells Y 58)).alloc (Obj.cells (Array.replicate 24 (.float .f64 0)) 63)).heap[w.heap.size + 1 + 1]? = some (.cells (Array.replicate 24 (.float .f64 0)) 63 (0, 0))) := by
    have h := heap_alloc_new ((w.alloc (.cells X 58)).alloc (.cells Y 58)) (Obj.cells (Array.replicate 24 (.float .f64 0)) 63)
    simp only [World.size_alloc] at h
    exact h
  refine bodyPost_ret (results_cell_row Try.results34 _ _ (w.heap.size + 1 + 1) 63 Z (0, 0) _ rfl (setRow_heap _ _ _ _ _ _ hw3.out) Try.underlying63 rfl (by rw [HZ.out]; exact size63)) rfl ⟨rfl, ?_⟩
  exact below_setRow' ((((Below.refl _ w).alloc (Nat.le_refl _) _).alloc (by simp) _).alloc (by simp; omega) _) (by omega) Z
end Go.Proofs.Qxb6614725a
