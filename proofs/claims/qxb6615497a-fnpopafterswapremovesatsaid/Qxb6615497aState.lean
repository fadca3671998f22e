/-
  THE STATE OF THE HEAP while it is drained or after a swap: what lies in which block. No walk here.
-/
import Derived.Test.Qxb6615497aParts
namespace Go.Proofs.Qxb6615497a
open Go.RowKit

/-- The heap h over the array g (room cap) holds the queues 0 .. r-1 of n; the snapshot lies in o. -/
structure Drain (h g o n r cap : Nat) (host : Nat → ByteArray) (qb : Nat → Nat) (w : World) : Prop where
  apart : g ≠ o
  far : h < g ∧ ∀ i, i < n → h < qb i
  fits : r ≤ n ∧ n ≤ cap ∧ cap ≤ maxLen
  head : w.heap[h]? = some (.cells #[.slice (some ⟨g, 0, none⟩) r cap, .nilFunc] 39 (0, 0))
  row : ∃ cur : Array Value, w.heap[g]? = some (.cells cur 29 (0, 0)) ∧ cur.size = cap ∧ ∀ i, i < r → cur[i]? = some (.pointer (some ⟨qb i, 0, none⟩))
  snap : ∃ cur : Array Value, w.heap[o]? = some (.cells cur 29 (0, 0)) ∧ ∀ i, i < n → cur[i]? = some (.pointer (some ⟨qb i, 0, none⟩))
  queue : ∀ i, i < n → w.heap[qb i]? = some (.cells (qcells (host i) (if i < r then some ⟨h, 0, none⟩ else none) i) 52 (0, 0))

theorem row_get {qb : Nat → Nat} {n : Nat} {cur : Array Value} (h : cur.toList.take (n * 1) = ptrs qb n) (i : Nat) (hi : i < n) : cur[i]? = some (.pointer (some ⟨qb i, 0, none⟩)) := by
  have h1 : (ptrs qb n)[i]? = some (.pointer (some ⟨qb i, 0, none⟩)) := by simp [ptrs, hi]
  rw [← h, List.getElem?_take, if_pos (by omega)] at h1
  simpa using h1

/-- How the state begins: behind ZZnewQueueHeap and the snapshot. -/
theorem drain_start {h n : Nat} {host : Nat → ByteArray} {qb : Nat → Nat} {w w' : World} {v' : Value} (hn : 0 < n) (hH : HeapAt h n host qb w) (hv : w'.ownsRow w.heap.size 29 1 v' n (ptrs qb n)) (hb : Below w.heap.size w w') :
    ∃ g o cap oc, v' = .slice (some ⟨o, 0, none⟩) n oc ∧ Drain h g o n n cap host qb w' := by
  obtain ⟨v, hh, hown, hq⟩ := hH
  rcases hown.2 with ⟨_, h0⟩ | ⟨g, cap, cur, rfl, hfar, hg, hc1, hc2, hc3, hc4⟩
  · omega
  rcases hv.2 with ⟨_, h0⟩ | ⟨o, oc, ocur, rfl, ho, hg', _, _, _, hc4'⟩
  · omega
  refine ⟨g, o, cap, oc, rfl, ?_, ⟨by omega, fun i hi => (hq i hi).1⟩, ⟨Nat.le_refl _, hc1, hc2⟩, ?_, ⟨cur, ?_, by omega, row_get hc4⟩, ⟨ocur, hg', row_get hc4'⟩, ?_⟩
  · have := lt_of_heap hg; omega
  · exact (hb.block h (lt_of_heap hh)).trans hh
  · exact (hb.block g (lt_of_heap hg)).trans hg
  · intro i hi
    rw [if_pos hi]
    have := (hq i hi).2
    exact (hb.block _ (lt_of_heap this)).trans this

section
variable {h g o n r cap : Nat} {host : Nat → ByteArray} {qb : Nat → Nat} {w : World}

theorem tag_ne {w : World} {b b' : Nat} {cs cs' : Array Value} {t t' : TypeId} (h1 : w.heap[b]? = some (.cells cs t (0, 0))) (h2 : w.heap[b']? = some (.cells cs' t' (0, 0))) (ht : t ≠ t') : b ≠ b' := by
  intro e
  rw [e, h2] at h1
  simp at h1
  exact ht h1.2.symm

theorem Drain.gh (D : Drain h g o n r cap host qb w) : g ≠ h := by
  obtain ⟨cur, hc, _⟩ := D.row
  exact tag_ne hc D.head (by decide)
theorem Drain.qh (D : Drain h g o n r cap host qb w) {i : Nat} (hi : i < n) : qb i ≠ h := tag_ne (D.queue i hi) D.head (by decide)
theorem Drain.qg (D : Drain h g o n r cap host qb w) {i : Nat} (hi : i < n) : qb i ≠ g := by
  obtain ⟨cur, hc, _⟩ := D.row
  exact tag_ne (D.queue i hi) hc (by decide)
theorem Drain.oh (D : Drain h g o n r cap host qb w) : o ≠ h := by
  obtain ⟨cur, hc, _⟩ := D.snap
  exact tag_ne hc D.head (by decide)
theorem Drain.oq (D : Drain h g o n r cap host qb w) {i : Nat} (hi : i < n) : o ≠ qb i := by
  obtain ⟨cur, hc, _⟩ := D.snap
  exact tag_ne hc (D.queue i hi) (by decide)
theorem Drain.qq (D : Drain h g o n r cap host qb w) {i j : Nat} (hi : i < n) (hj : j < n) (hne : i ≠ j) : qb i ≠ qb j := by
  intro e
  have h1 := D.queue i hi
  rw [e, D.queue j hj] at h1
  simp [qcells] at h1
  omega

theorem Drain.c_head (D : Drain h g o n r cap host qb w) : w.cell? ⟨h, 0, none⟩ = some (.slice (some ⟨g, 0, none⟩) r cap) := by rw [cell_at D.head]; rfl
theorem Drain.f_head (D : Drain h g o n r cap host qb w) : w.frozen? ⟨h, 0, none⟩ = false := free_at D.head 0
theorem Drain.c_row (D : Drain h g o n r cap host qb w) {i : Nat} (hi : i < r) : w.cell? ⟨g, i, none⟩ = some (.pointer (some ⟨qb i, 0, none⟩)) := by
  obtain ⟨cur, hc, _, hr⟩ := D.row
  rw [cell_at hc]; exact hr i hi
theorem Drain.f_row (D : Drain h g o n r cap host qb w) (i : Nat) : w.frozen? ⟨g, i, none⟩ = false := by
  obtain ⟨cur, hc, _, hr⟩ := D.row
  exact free_at hc i
theorem Drain.c_snap (D : Drain h g o n r cap host qb w) {i : Nat} (hi : i < n) : w.cell? ⟨o, i, none⟩ = some (.pointer (some ⟨qb i, 0, none⟩)) := by
  obtain ⟨cur, hc, hr⟩ := D.snap
  rw [cell_at hc]; exact hr i hi
theorem Drain.c_heap (D : Drain h g o n r cap host qb w) {i : Nat} (hi : i < n) : w.cell? ⟨qb i, 4, none⟩ = some (.pointer (if i < r then some ⟨h, 0, none⟩ else none)) := by
  rw [cell_at (D.queue i hi)]; rfl
theorem Drain.f_heap (D : Drain h g o n r cap host qb w) {i : Nat} (hi : i < n) : w.frozen? ⟨qb i, 4, none⟩ = false := free_at (D.queue i hi) 4
theorem Drain.c_index (D : Drain h g o n r cap host qb w) {i : Nat} (hi : i < n) : w.cell? ⟨qb i, 5, none⟩ = some (.int .i64 (i : Int)) := by
  rw [cell_at (D.queue i hi)]; rfl
theorem Drain.c_host (D : Drain h g o n r cap host qb w) {i : Nat} (hi : i < n) : w.cell? ⟨qb i, 1, none⟩ = some (.string (host i)) := by
  rw [cell_at (D.queue i hi)]; rfl

/-- One Pop: one queue fewer. -/
theorem Drain.pop (D : Drain h g o n (r + 1) cap host qb w) : Drain h g o n r cap host qb (popped h g r cap (qb r) w) := by
  have hr : r < n := by have := D.fits.1; omega
  obtain ⟨cur, hc, hs, hcur⟩ := D.row
  obtain ⟨ocur, hoc, hocur⟩ := D.snap
  have gh := D.gh
  have qh := D.qh hr
  have qg := D.qg hr
  have oh := D.oh
  have oq := D.oq hr
  unfold popped
  refine ⟨D.apart, D.far, ⟨by omega, D.fits.2⟩, ?_, ⟨cur.setIfInBounds r (.pointer none), ?_, by simpa using hs, ?_⟩, ⟨ocur, ?_, hocur⟩, ?_⟩
  · rw [heap_set_other (Ne.symm qh)]
    have h1 : (w.setCell ⟨g, r, none⟩ (.pointer none)).heap[h]? = some (.cells #[.slice (some ⟨g, 0, none⟩) (r + 1) cap, .nilFunc] 39 (0, 0)) := by
      rw [heap_set_other (Ne.symm gh)]; exact D.head
    rw [heap_set h1]; rfl
  · rw [heap_set_other (Ne.symm qg), heap_set_other gh, heap_set hc]
  · intro i hi
    rw [Array.getElem?_setIfInBounds_ne (by omega)]
    exact hcur i (by omega)
  · rw [heap_set_other oq, heap_set_other oh, heap_set_other (Ne.symm D.apart)]
    exact hoc
  · intro i hi
    by_cases e : i = r
    · subst e
      have h1 : ((w.setCell ⟨g, i, none⟩ (.pointer none)).setCell ⟨h, 0, none⟩ (.slice (some ⟨g, 0, none⟩) i cap)).heap[qb i]? = some (.cells (qcells (host i) (some ⟨h, 0, none⟩) i) 52 (0, 0)) := by
        rw [heap_set_other qh, heap_set_other qg, D.queue i hi, if_pos (by omega)]
      rw [heap_set h1, if_neg (by omega)]; rfl
    · rw [heap_set_other (D.qq hi hr e), heap_set_other (D.qh hi), heap_set_other (D.qg hi), D.queue i hi]
      by_cases e2 : i < r
      · rw [if_pos e2, if_pos (by omega)]
      · rw [if_neg e2, if_neg (by omega)]

theorem below_popped {B : Nat} {a : World} (hb : Below B a w) (h1 : B ≤ h) (h2 : B ≤ g) (q : Nat) (h3 : B ≤ q) (n' cap' : Nat) : Below B a (popped h g n' cap' q w) := by
  unfold popped
  exact ((hb.setCell h2 _).setCell h1 _).setCell h3 _
end
end Go.Proofs.Qxb6615497a
