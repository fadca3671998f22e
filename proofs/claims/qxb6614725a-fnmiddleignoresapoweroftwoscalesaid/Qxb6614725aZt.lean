/-
  WHAT STANDS in memory while the corners are scaled.
-/
import Derived.Test.Qxb6614725aZz
namespace Go.Proofs.Qxb6614725a
open Go.RowKit

/-- what stands at the round's head of the loop that scales -/
def ZT (B : Nat) (c n d : Nat → Nat) (k : Nat) (w : World) : Prop :=
  w.heap[B]? = some (.cells (full c) 32 (0, 0)) ∧ w.heap[B + 1]? = some (.cells (full n) 32 (0, 0)) ∧ w.heap[B + 1 + 1]? = some (.cells (part d k) 32 (0, 0))

theorem zt_start {B : Nat} {c n d : Nat → Nat} {w : World} (h0 : w.heap[B]? = some (.cells (full c) 32 (0, 0))) (h1 : w.heap[B + 1]? = some (.cells (full n) 32 (0, 0))) (hs : w.heap.size = B + 1 + 1) : ZT B c n d 0 (w.alloc (.cells (part d 0) 32)) := by
  refine ⟨?_, ?_, ?_⟩
  · rw [Below.heap_alloc _ _ _ (by omega)]; exact h0
  · rw [Below.heap_alloc _ _ _ (by omega)]; exact h1
  · rw [← hs]; exact heap_alloc_new w _

theorem zt_c {B : Nat} {c n d : Nat → Nat} {k : Nat} {w : World} (h : ZT B c n d k w) (i : Nat) (hi : i < 12) : w.cell? ⟨B, i, none⟩ = some (.float .f64 (c i)) := by
  rw [cell_of_row _ _ _ _ _ _ h.1]
  exact full_get c i hi

theorem zt_s {B : Nat} {c n d : Nat → Nat} {k : Nat} {w : World} (h : ZT B c n d k w) (i : Nat) (hi : i < 12) (hk : 3 * k ≤ i) : w.cell? ⟨B + 1 + 1, i, none⟩ = some (.float .f64 0) := by
  rw [cell_of_row _ _ _ _ _ _ h.2.2]
  simp [part, hi]
  omega

theorem zt_f {B : Nat} {c n d : Nat → Nat} {k : Nat} {w : World} (h : ZT B c n d k w) (i : Nat) : w.frozen? ⟨B + 1 + 1, i, none⟩ = false := by
  simp [World.frozen?, h.2.2]

theorem keep3 {B : Nat} {w : World} {i : Nat} {v : Value} (h : w.cell? ⟨B, i, none⟩ = some v) (p q r : Nat) (x y z : Value) : ((((w.setCell ⟨B + 1 + 1, p, none⟩ x).setCell ⟨B + 1 + 1, q, none⟩ y).setCell ⟨B + 1 + 1, r, none⟩ z).drew).cell? ⟨B, i, none⟩ = some v := by
  rw [← h]
  apply World.cell?_of_block
  show (((w.setCell ⟨B + 1 + 1, p, none⟩ x).setCell ⟨B + 1 + 1, q, none⟩ y).setCell ⟨B + 1 + 1, r, none⟩ z).heap[B]? = w.heap[B]?
  rw [Below.heap_setCell _ _ _ _ (by simp <;> omega), Below.heap_setCell _ _ _ _ (by simp <;> omega), Below.heap_setCell _ _ _ _ (by simp <;> omega)]

theorem part_set (f : Nat → Nat) (k : Nat) (hk : k < 4) : (((part f k).setIfInBounds (3 * k) (.float .f64 (f (3 * k)))).setIfInBounds (3 * k + 1) (.float .f64 (f (3 * k + 1)))).setIfInBounds (3 * k + 2) (.float .f64 (f (3 * k + 2))) = part f (k + 1) := by
  match k, hk with
  | 0, _ => rfl
  | 1, _ => rfl
  | 2, _ => rfl
  | 3, _ => rfl

theorem zt_step {B : Nat} {c n d : Nat → Nat} {k : Nat} {w w' : World} (hk : k < 4) (h : ZT B c n d k w) (hw : w'.heap = (((w.setCell ⟨B + 1 + 1, 3 * k, none⟩ (.float .f64 (d (3 * k)))).setCell ⟨B + 1 + 1, 3 * k + 1, none⟩ (.float .f64 (d (3 * k + 1)))).setCell ⟨B + 1 + 1, 3 * k + 2, none⟩ (.float .f64 (d (3 * k + 2)))).heap) : ZT B c n d (k + 1) w' := by
  obtain ⟨h0, h1, h2⟩ := h
  refine ⟨?_, ?_, ?_⟩
  · rw [hw, Below.heap_setCell _ _ _ _ (by simp <;> omega), Below.heap_setCell _ _ _ _ (by simp <;> omega), Below.heap_setCell _ _ _ _ (by simp <;> omega)]; exact h0
  · rw [hw, Below.heap_setCell _ _ _ _ (by simp <;> omega), Below.heap_setCell _ _ _ _ (by simp <;> omega), Below.heap_setCell _ _ _ _ (by simp <;> omega)]; exact h1
  · rw [hw, heap_set' (heap_set' (heap_set' h2 _) _) _, part_set d k hk]

theorem zt_below {B : Nat} {w0 w : World} (h : Below B w0 w) (p q r : Nat) (x y z : Value) : Below B w0 (((w.setCell ⟨B + 1 + 1, p, none⟩ x).setCell ⟨B + 1 + 1, q, none⟩ y).setCell ⟨B + 1 + 1, r, none⟩ z).drew :=
  (((h.setCell (by simp <;> omega) _).setCell (by simp <;> omega) _).setCell (by simp <;> omega) _).drew

theorem zt_keep {B : Nat} {c n d : Nat → Nat} {k : Nat} {w w' : World} (h : ZT B c n d k w) (hb : Below w.heap.size w w') : ZT B c n d k w' := by
  obtain ⟨h0, h1, h2⟩ := h
  exact ⟨(hb.block _ (lt_of_heap' h0)).trans h0, (hb.block _ (lt_of_heap' h1)).trans h1, (hb.block _ (lt_of_heap' h2)).trans h2⟩

theorem zt_size {B : Nat} {c n d : Nat → Nat} {k : Nat} {w : World} (h : ZT B c n d k w) : B ≤ w.heap.size := Nat.le_of_lt (lt_of_heap' h.1)

theorem new_below (w : World) (a b : Array Value) (t : TypeId) : Below w.heap.size w ((w.alloc (.cells a t)).setRow w.heap.size b) := below_setRow' ((Below.refl _ w).alloc (Nat.le_refl _) _) (Nat.le_refl _) b
theorem new_row (w : World) (a b : Array Value) (t : TypeId) : ((w.alloc (.cells a t)).setRow w.heap.size b).heap[w.heap.size]? = some (.cells b t (0, 0)) := setRow_heap _ _ _ _ _ _ (heap_alloc_new w _)
theorem row3 {w : World} {b : Nat} {x y z : Value} {t : TypeId} (h : w.heap[b]? = some (.cells #[x, y, z] t (0, 0))) : w.cell? ⟨b, 0, none⟩ = some x ∧ w.cell? ⟨b, 1, none⟩ = some y ∧ w.cell? ⟨b, 2, none⟩ = some z := by
  refine ⟨?_, ?_, ?_⟩
  all_goals (rw [cell_of_row w b _ _ t (0, 0) h]; rfl)
theorem below_chain {w0 a b : World} (h : Below w0.heap.size w0 a) (k : Below a.heap.size a b) : Below w0.heap.size w0 b := h.trans (k.mono h.size)
end Go.Proofs.Qxb6614725a
