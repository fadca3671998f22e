/-
  THE WALK of middle: a statement that leaves its order open: the corners are read, the three sums and the unit are called, in whatever order.
-/
import Derived.Test.Qxb6614725aVec
import Derived.Deep.RegionHeld3
namespace Go.Proofs.Qxb6614725a
open Go.RowKit
attribute [local go_sem] run_store_float

/-- what unit is known to do -/
def UnitOf (x y z : Nat) (P : Nat → Nat → Nat → Prop) : Prop := ∀ w, Calls Try.prog 45 #[V3 x y z] w fun e w' => ∃ a b c, e = .returned (V3 a b c) ∧ P a b c ∧ Below w.heap.size w w'

/-- the result's variable -/
def ResOk (b : Nat) (w : World) : Prop := ∃ x y z : Value, w.heap[b]? = some (.cells #[x, y, z] 49 (0, 0))

/-- what is held while the statement runs: the corners; the result's variable -/
def MS (B : Nat) (c : Nat → Nat) (w' : World) : Prop := w'.cell? ⟨B, 0, none⟩ = some (.float .f64 (c 0)) ∧ w'.cell? ⟨B, 1, none⟩ = some (.float .f64 (c 1)) ∧ w'.cell? ⟨B, 2, none⟩ = some (.float .f64 (c 2)) ∧ w'.cell? ⟨B, 3, none⟩ = some (.float .f64 (c 3)) ∧ w'.cell? ⟨B, 4, none⟩ = some (.float .f64 (c 4)) ∧ w'.cell? ⟨B, 5, none⟩ = some (.float .f64 (c 5)) ∧ w'.cell? ⟨B, 6, none⟩ = some (.float .f64 (c 6)) ∧ w'.cell? ⟨B, 7, none⟩ = some (.float .f64 (c 7)) ∧ w'.cell? ⟨B, 8, none⟩ = some (.float .f64 (c 8)) ∧ w'.cell? ⟨B, 9, none⟩ = some (.float .f64 (c 9)) ∧ w'.cell? ⟨B, 10, none⟩ = some (.float .f64 (c 10)) ∧ w'.cell? ⟨B, 11, none⟩ = some (.float .f64 (c 11)) ∧ ResOk (B + 1) w'

theorem lt_of_heap' {w : World} {b : Nat} {o : Obj} (h : w.heap[b]? = some o) : b < w.heap.size := (Array.getElem?_eq_some_iff.1 h).1

theorem ms_keep {B : Nat} {c : Nat → Nat} {w w' : World} (h : MS B c w) (hb : Below w.heap.size w w') : MS B c w' := by
  obtain ⟨h0, h1, h2, h3, h4, h5, h6, h7, h8, h9, h10, h11, x, y, z, hr⟩ := h
  have hB : B < w.heap.size := World.block_lt_of_cell? w ⟨B, 0, none⟩ h0
  have k : ∀ o, w'.cell? ⟨B, o, none⟩ = w.cell? ⟨B, o, none⟩ := fun o => hb.cell (p := ⟨B, o, none⟩) hB
  refine ⟨?_, ?_, ?_, ?_, ?_, ?_, ?_, ?_, ?_, ?_, ?_, ?_, x, y, z, (hb.block _ (lt_of_heap' hr)).trans hr⟩
  all_goals (rw [k]; assumption)

theorem heap_set' {w : World} {b o : Nat} {cs : Array Value} {t : TypeId} (h : w.heap[b]? = some (.cells cs t (0, 0))) (v : Value) : (w.setCell ⟨b, o, none⟩ v).heap[b]? = some (.cells (cs.setIfInBounds o v) t (0, 0)) := by
  rw [setCell_eq_setRow w b o cs t (0, 0) v h]
  exact setRow_heap w b cs _ t _ h

theorem ms_store {B : Nat} {c : Nat → Nat} {w : World} (h : MS B c w) (p q r : Value) : MS B c (((w.setCell ⟨B + 1, 0, none⟩ p).setCell ⟨B + 1, 1, none⟩ q).setCell ⟨B + 1, 2, none⟩ r) := by
  obtain ⟨h0, h1, h2, h3, h4, h5, h6, h7, h8, h9, h10, h11, x, y, z, hr⟩ := h
  have k : ∀ o, (((w.setCell ⟨B + 1, 0, none⟩ p).setCell ⟨B + 1, 1, none⟩ q).setCell ⟨B + 1, 2, none⟩ r).cell? ⟨B, o, none⟩ = w.cell? ⟨B, o, none⟩ := by
    intro o
    apply World.cell?_of_block
    rw [Below.heap_setCell _ _ _ _ (by simp), Below.heap_setCell _ _ _ _ (by simp), Below.heap_setCell _ _ _ _ (by simp)]
  refine ⟨?_, ?_, ?_, ?_, ?_, ?_, ?_, ?_, ?_, ?_, ?_, ?_, p, q, r, heap_set' (heap_set' (heap_set' hr p) q) r⟩
  all_goals (rw [k]; assumption)

theorem ms_res {B : Nat} {c : Nat → Nat} {w : World} (h : MS B c w) : ResOk (B + 1) w := by
  obtain ⟨_, _, _, _, _, _, _, _, _, _, _, _, hr⟩ := h
  exact hr

theorem res_cells {b : Nat} {w : World} (h : ResOk b w) : ∃ x y z, w.cell? ⟨b, 0, none⟩ = some x ∧ w.cell? ⟨b, 1, none⟩ = some y ∧ w.cell? ⟨b, 2, none⟩ = some z ∧ w.frozen? ⟨b, 0, none⟩ = false ∧ w.frozen? ⟨b, 1, none⟩ = false ∧ w.frozen? ⟨b, 2, none⟩ = false := by
  obtain ⟨x, y, z, hr⟩ := h
  refine ⟨x, y, z, ?_, ?_, ?_, ?_, ?_, ?_⟩
  · rw [cell_of_row w b 0 _ 49 (0, 0) hr]; rfl
  · rw [cell_of_row w b 1 _ 49 (0, 0) hr]; rfl
  · rw [cell_of_row w b 2 _ 49 (0, 0) hr]; rfl
  · simp [World.frozen?, hr]
  · simp [World.frozen?, hr]
  · simp [World.frozen?, hr]

theorem below5 {B : Nat} {w w1 w2 w3 w4 w5 : World} (h1 : Below B w w1) (hs : B + 2 ≤ w1.heap.size) (h2 : Below w1.drew.heap.size w1.drew w2) (h3 : Below w2.heap.size w2 w3) (h4 : Below w3.heap.size w3 w4) (h5 : Below w4.heap.size w4 w5) (x y z : Value) :
    Below B w (((w5.setCell ⟨B + 1, 0, none⟩ x).setCell ⟨B + 1, 1, none⟩ y).setCell ⟨B + 1, 2, none⟩ z) := by
  have a1 : w1.heap.size ≤ w2.heap.size := h2.size
  have a2 := h3.size
  have a3 := h4.size
  have e2 : Below B w w2 := h1.drew.trans (h2.mono (by show B ≤ w1.heap.size; omega))
  have e3 := e2.trans (h3.mono (by omega))
  have e4 := e3.trans (h4.mono (by omega))
  have e5 := e4.trans (h5.mono (by omega))
  exact ((e5.setCell (by simp) _).setCell (by simp) _).setCell (by simp) _

/-- what the three additions give -/
def Adds (c g1 g2 s : Nat → Nat) : Prop := ∀ i, i < 3 → Ieee.double.add (c i) (c (3 + i)) = some (g1 i) ∧ Ieee.double.add (g1 i) (c (6 + i)) = some (g2 i) ∧ Ieee.double.add (g2 i) (c (9 + i)) = some (s i)

set_option maxRecDepth 100000 in
set_option maxHeartbeats 2000000 in
theorem middle_t (c g1 g2 s : Nat → Nat) (P : Nat → Nat → Nat → Prop) (hA : Adds c g1 g2 s) (hU : UnitOf (s 0) (s 1) (s 2) P) (w : World) :
    Calls Try.prog 40 #[.agg #[.float .f64 (c 0), .float .f64 (c 1), .float .f64 (c 2), .float .f64 (c 3), .float .f64 (c 4), .float .f64 (c 5), .float .f64 (c 6), .float .f64 (c 7), .float .f64 (c 8), .float .f64 (c 9), .float .f64 (c 10), .float .f64 (c 11), .float .f64 (c 12), .float .f64 (c 13), .float .f64 (c 14), .float .f64 (c 15), .float .f64 (c 16), .float .f64 (c 17), .float .f64 (c 18), .float .f64 (c 19), .float .f64 (c 20), .float .f64 (c 21), .float .f64 (c 22), .float .f64 (c 23)]] w fun e w' => ∃ a b c, e = .returned (V3 a b c) ∧ P a b c ∧ Below w.heap.size w w' := by
  have HU : Hid (UnitOf (s 0) (s 1) (s 2) P) := hU
  have c1 : Hid (∀ W, Calls Try.prog 44 #[V3 (c 0) (c 1) (c 2), V3 (c 3) (c 4) (c 5)] W fun e w' => e = .returned (V3 (g1 0) (g1 1) (g1 2)) ∧ Below W.heap.size W w') := fun W => add_t _ _ _ _ _ _ _ _ _ (hA 0 (by decide)).1 (hA 1 (by decide)).1 (hA 2 (by decide)).1 W
  have c2 : Hid (∀ W, Calls Try.prog 44 #[V3 (g1 0) (g1 1) (g1 2), V3 (c 6) (c 7) (c 8)] W fun e w' => e = .returned (V3 (g2 0) (g2 1) (g2 2)) ∧ Below W.heap.size W w') := fun W => add_t _ _ _ _ _ _ _ _ _ (hA 0 (by decide)).2.1 (hA 1 (by decide)).2.1 (hA 2 (by decide)).2.1 W
  have c3 : Hid (∀ W, Calls Try.prog 44 #[V3 (g2 0) (g2 1) (g2 2), V3 (c 9) (c 10) (c 11)] W fun e w' => e = .returned (V3 (s 0) (s 1) (s 2)) ∧ Below W.heap.size W w') := fun W => add_t _ _ _ _ _ _ _ _ _ (hA 0 (by decide)).2.2 (hA 1 (by decide)).2.2 (hA 2 (by decide)).2.2 W
  clear hA hU
  go_enter Try.func40, Try.ntmps40
  go_wp2_with fail
  obtain ⟨B, hB⟩ : ∃ B, B = w.heap.size := ⟨_, rfl⟩
  obtain ⟨w1, hw1⟩ : ∃ w1, w1 = (w.alloc (.cells #[.float .f64 (c 0), .float .f64 (c 1), .float .f64 (c 2), .float .f64 (c 3), .float .f64 (c 4), .float .f64 (c 5), .float .f64 (c 6), .float .f64 (c 7), .float .f64 (c 8), .float .f64 (c 9), .float .f64 (c 10), .float .f64 (c 11), .float .f64 (c 12), .float .f64 (c 13), .float .f64 (c 14), .float .f64 (c 15), .float .f64 (c 16), .float .f64 (c 17), .float .f64 (c 18), .float .f64 (c 19), .float .f64 (c 20), .float .f64 (c 21), .float .f64 (c 22), .float .f64 (c 23)] 63)).alloc (.cells #[.float .f64 0, .float .f64 0, .float .f64 0] 49) := ⟨_, rfl⟩
  have hS1 : MS B c w1 := by
    subst hB hw1
    have k : ∀ o, ((w.alloc (.cells #[.float .f64 (c 0), .float .f64 (c 1), .float .f64 (c 2), .float .f64 (c 3), .float .f64 (c 4), .float .f64 (c 5), .float .f64 (c 6), .float .f64 (c 7), .float .f64 (c 8), .float .f64 (c 9), .float .f64 (c 10), .float .f64 (c 11), .float .f64 (c 12), .float .f64 (c 13), .float .f64 (c 14), .float .f64 (c 15), .float .f64 (c 16), .float .f64 (c 17), .float .f64 (c 18), .float .f64 (c 19), .float .f64 (c 20), .float .f64 (c 21), .float .f64 (c 22), .float .f64 (c 23)] 63)).alloc (.cells #[.float .f64 0, .float .f64 0, .float .f64 0] 49)).cell? ⟨w.heap.size, o, none⟩ = (#[.float .f64 (c 0), .float .f64 (c 1), .float .f64 (c 2), .float .f64 (c 3), .float .f64 (c 4), .float .f64 (c 5), .float .f64 (c 6), .float .f64 (c 7), .float .f64 (c 8), .float .f64 (c 9), .float .f64 (c 10), .float .f64 (c 11), .float .f64 (c 12), .float .f64 (c 13), .float .f64 (c 14), .float .f64 (c 15), .float .f64 (c 16), .float .f64 (c 17), .float .f64 (c 18), .float .f64 (c 19), .float .f64 (c 20), .float .f64 (c 21), .float .f64 (c 22), .float .f64 (c 23)] : Array Value)[o]? := by
      intro o
      rw [cell_of_row _ w.heap.size o _ 63 (0, 0) (by rw [Below.heap_alloc _ _ _ (by simp)]; exact heap_alloc_new w _)]
    refine ⟨?_, ?_, ?_, ?_, ?_, ?_, ?_, ?_, ?_, ?_, ?_, ?_, .float .f64 0, .float .f64 0, .float .f64 0, ?_⟩
    case refine_13 =>
      have := heap_alloc_new (w.alloc (.cells #[.float .f64 (c 0), .float .f64 (c 1), .float .f64 (c 2), .float .f64 (c 3), .float .f64 (c 4), .float .f64 (c 5), .float .f64 (c 6), .float .f64 (c 7), .float .f64 (c 8), .float .f64 (c 9), .float .f64 (c 10), .float .f64 (c 11), .float .f64 (c 12), .float .f64 (c 13), .float .f64 (c 14), .float .f64 (c 15), .float .f64 (c 16), .float .f64 (c 17), .float .f64 (c 18), .float .f64 (c 19), .float .f64 (c 20), .float .f64 (c 21), .float .f64 (c 22), .float .f64 (c 23)] 63)) (.cells #[.float .f64 0, .float .f64 0, .float .f64 0] 49)
      simpa using this
    all_goals (rw [k]; rfl)
  have hb1 : Hid (Below B w w1) := by subst hB hw1; exact ((Below.refl _ w).alloc (Nat.le_refl _) _).alloc (by simp) _
  have hsz : Hid (B + 2 ≤ w1.heap.size) := by subst hB hw1; unfold Hid; simp
  rw [← hw1, ← hB]
  have HB : Hid (B = w.heap.size) := hB
  clear hw1 hB
  go_region_held3 (fun w' => w'.cell? ⟨B, 0, none⟩ = some (.float .f64 (c 0)) ∧ w'.cell? ⟨B, 1, none⟩ = some (.float .f64 (c 1)) ∧ w'.cell? ⟨B, 2, none⟩ = some (.float .f64 (c 2)) ∧ w'.cell? ⟨B, 3, none⟩ = some (.float .f64 (c 3)) ∧ w'.cell? ⟨B, 4, none⟩ = some (.float .f64 (c 4)) ∧ w'.cell? ⟨B, 5, none⟩ = some (.float .f64 (c 5)) ∧ w'.cell? ⟨B, 6, none⟩ = some (.float .f64 (c 6)) ∧ w'.cell? ⟨B, 7, none⟩ = some (.float .f64 (c 7)) ∧ w'.cell? ⟨B, 8, none⟩ = some (.float .f64 (c 8)) ∧ w'.cell? ⟨B, 9, none⟩ = some (.float .f64 (c 9)) ∧ w'.cell? ⟨B, 10, none⟩ = some (.float .f64 (c 10)) ∧ w'.cell? ⟨B, 11, none⟩ = some (.float .f64 (c 11)) ∧ ResOk (B + 1) w') (first | exact hS1 | exact ms_store (by assumption) _ _ _ | exact ms_keep (by assumption) (by assumption))
    (first
      | (go_at_call_of 44 (c 0); refine (c1.out _).mono ?_; rintro e w2 ⟨rfl, hb2⟩)
      | (go_at_call_of 44 (c 6); refine (c2.out _).mono ?_; rintro e w3 ⟨rfl, hb3⟩)
      | (go_at_call_of 44 (c 9); refine (c3.out _).mono ?_; rintro e w4 ⟨rfl, hb4⟩)
      | (go_at_call 45; refine (HU.out _).mono ?_; rintro e w5 ⟨x, y, z, rfl, hP, hb5⟩; obtain ⟨v0, v1, v2, k0, k1, k2, f0, f1, f2⟩ := res_cells (ms_res (ms_keep (B := B) (c := c) (by assumption) hb5))))
  go_wp2_with fail
  simp [bodyPost, results, Try.results40, go_sem, k0, k1, k2]
  refine ⟨x, y, z, ⟨rfl, rfl, rfl⟩, hP, ?_⟩
  rw [← HB.out]
  exact below5 hb1.out hsz.out hb2 hb3 hb4 hb5 _ _ _
end Go.Proofs.Qxb6614725a
