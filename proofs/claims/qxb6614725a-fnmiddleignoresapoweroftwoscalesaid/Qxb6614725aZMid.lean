/-
  THE WALK of ZZmiddle, the boundary held as a whole.
-/
import Derived.Test.Qxb6614725aBound
namespace Go.Proofs.Qxb6614725a
open Go.RowKit
attribute [local go_sem] run_store_float

theorem size49 : (Try.prog.info? 49).map (·.size) = some 3 := by kernel_rfl

set_option maxRecDepth 100000 in
set_option maxHeartbeats 1000000 in
theorem zzmiddle_t (Z : Array Value) (hZ : Z.size = 24) (P : Nat → Nat → Nat → Prop) (hM : ∀ W, Calls Try.prog 40 #[.agg Z] W fun e w' => ∃ a b c, e = .returned (V3 a b c) ∧ P a b c ∧ Below W.heap.size W w') (w : World) :
    Calls Try.prog 33 #[.agg Z] w fun e w' => ∃ a b c, e = .returned (V3 a b c) ∧ P a b c ∧ Below w.heap.size w w' := by
  have HM : Hid (∀ W, Calls Try.prog 40 #[.agg Z] W fun e w' => ∃ a b c, e = .returned (V3 a b c) ∧ P a b c ∧ Below W.heap.size W w') := hM
  have HZ : Hid (Z.size = 24) := hZ
  clear hM hZ
  go_enter Try.func33, Try.ntmps33
  go_wp2_with (first
    | (refine wpList_load_row rfl 63 (.tmp 1) rfl w.heap.size rfl 63 Z (0, 0) _ ?a1 Try.underlying63 rfl ?a2 ?_)
    | (go_at_call 40; refine (HM.out _).mono ?_; rintro e w2 ⟨x, y, z, rfl, hP, hb2⟩)
    | (refine wpList_store_row rfl 49 (.tmp 2) (.tmp 4) rfl (w.heap.size + 1) #[.float .f64 x, .float .f64 y, .float .f64 z] rfl rfl 49 #[.float .f64 0, .float .f64 0, .float .f64 0] ?b1 ?b2 rfl ?b3 ?_))
  case a1 => exact heap_alloc2_old w _ _
  case a2 => rw [HZ.out]; exact size63
  case b2 => exact size49
  case b3 => simp [Value.oneCell']
  case b1 => exact (hb2.block _ (by simp)).trans (heap_alloc2_new w _ _)
  have hr := (hb2.block _ (by simp)).trans (heap_alloc2_new w (.cells Z 63) (.cells #[.float .f64 0, .float .f64 0, .float .f64 0] 49))
  refine bodyPost_ret (results_cell_row Try.results33 _ _ (w.heap.size + 1) 49 #[.float .f64 x, .float .f64 y, .float .f64 z] (0, 0) _ rfl (setRow_heap _ _ _ _ _ _ hr) Try.underlying49 rfl size49) rfl ⟨x, y, z, rfl, hP, ?_⟩
  exact below_setRow' ((((Below.refl _ w).alloc (Nat.le_refl _) _).alloc (by simp) _).trans (hb2.mono (by simp; omega))) (by omega) _
end Go.Proofs.Qxb6614725a
