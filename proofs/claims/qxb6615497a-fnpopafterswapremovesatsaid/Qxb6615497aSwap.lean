/-
  SWAP: the state of the heap behind a Swap and a Pop, and the walk of Swap.
-/
import Derived.Test.Qxb6615497aState
import Derived.RegionTactic
import Derived.BigRegion
namespace Go.Proofs.Qxb6615497a
open Go.RowKit

/-- The heap h over the array g (room cap) holds the queues 0 .. r-1 of n. -/
structure Held (h g n r cap : Nat) (host : Nat → ByteArray) (qb : Nat → Nat) (w : World) : Prop where
  far : h < g ∧ ∀ i, i < n → h < qb i
  fits : r ≤ n ∧ n ≤ cap ∧ cap ≤ maxLen
  head : w.heap[h]? = some (.cells #[.slice (some ⟨g, 0, none⟩) r cap, .nilFunc] 39 (0, 0))
  row : ∃ cur : Array Value, w.heap[g]? = some (.cells cur 29 (0, 0)) ∧ cur.size = cap ∧ ∀ i, i < r → cur[i]? = some (.pointer (some ⟨qb i, 0, none⟩))
  queue : ∀ i, i < n → w.heap[qb i]? = some (.cells (qcells (host i) (if i < r then some ⟨h, 0, none⟩ else none) i) 52 (0, 0))

/-- The snapshot in block o. -/
def SnapAt (o n : Nat) (sb : Nat → Nat) (w : World) : Prop :=
  ∃ cur : Array Value, w.heap[o]? = some (.cells cur 29 (0, 0)) ∧ ∀ i, i < n → cur[i]? = some (.pointer (some ⟨sb i, 0, none⟩))

theorem Drain.held {h g o n r cap : Nat} {host : Nat → ByteArray} {qb : Nat → Nat} {w : World} (D : Drain h g o n r cap host qb w) : Held h g n r cap host qb w ∧ SnapAt o n qb w ∧ g ≠ o :=
  ⟨⟨D.far, D.fits, D.head, D.row, D.queue⟩, D.snap, D.apart⟩

section
variable {h g o n r cap : Nat} {host : Nat → ByteArray} {qb sb : Nat → Nat} {w : World}

theorem Held.drewN (D : Held h g n r cap host qb w) (m : Nat) : Held h g n r cap host qb (w.drewN m) := ⟨D.far, D.fits, D.head, D.row, D.queue⟩
theorem SnapAt.drewN (D : SnapAt o n sb w) (m : Nat) : SnapAt o n sb (w.drewN m) := D

theorem Held.gh (D : Held h g n r cap host qb w) : g ≠ h := by
  obtain ⟨cur, hc, _⟩ := D.row
  exact tag_ne hc D.head (by decide)
theorem Held.qh (D : Held h g n r cap host qb w) {i : Nat} (hi : i < n) : qb i ≠ h := tag_ne (D.queue i hi) D.head (by decide)
theorem Held.qg (D : Held h g n r cap host qb w) {i : Nat} (hi : i < n) : qb i ≠ g := by
  obtain ⟨cur, hc, _⟩ := D.row
  exact tag_ne (D.queue i hi) hc (by decide)
theorem Held.oh (D : Held h g n r cap host qb w) (S : SnapAt o n sb w) : o ≠ h := by
  obtain ⟨cur, hc, _⟩ := S
  exact tag_ne hc D.head (by decide)
theorem Held.oq (D : Held h g n r cap host qb w) (S : SnapAt o n sb w) {i : Nat} (hi : i < n) : o ≠ qb i := by
  obtain ⟨cur, hc, _⟩ := S
  exact tag_ne hc (D.queue i hi) (by decide)
theorem Held.qq (D : Held h g n r cap host qb w) {i j : Nat} (hi : i < n) (hj : j < n) (hne : i ≠ j) : qb i ≠ qb j := by
  intro e
  have h1 := D.queue i hi
  rw [e, D.queue j hj] at h1
  simp [qcells] at h1
  omega

theorem Held.c_head (D : Held h g n r cap host qb w) : w.cell? ⟨h, 0, none⟩ = some (.slice (some ⟨g, 0, none⟩) r cap) := by rw [cell_at D.head]; rfl
theorem Held.f_head (D : Held h g n r cap host qb w) : w.frozen? ⟨h, 0, none⟩ = false := free_at D.head 0
theorem Held.c_row (D : Held h g n r cap host qb w) {i : Nat} (hi : i < r) : w.cell? ⟨g, i, none⟩ = some (.pointer (some ⟨qb i, 0, none⟩)) := by
  obtain ⟨cur, hc, _, hr⟩ := D.row
  rw [cell_at hc]; exact hr i hi
theorem Held.f_row (D : Held h g n r cap host qb w) (i : Nat) : w.frozen? ⟨g, i, none⟩ = false := by
  obtain ⟨cur, hc, _, hr⟩ := D.row
  exact free_at hc i
theorem SnapAt.cell (S : SnapAt o n sb w) {i : Nat} (hi : i < n) : w.cell? ⟨o, i, none⟩ = some (.pointer (some ⟨sb i, 0, none⟩)) := by
  obtain ⟨cur, hc, hr⟩ := S
  rw [cell_at hc]; exact hr i hi
theorem Held.c_heap (D : Held h g n r cap host qb w) {i : Nat} (hi : i < n) : w.cell? ⟨qb i, 4, none⟩ = some (.pointer (if i < r then some ⟨h, 0, none⟩ else none)) := by
  rw [cell_at (D.queue i hi)]; rfl
theorem Held.f_queue (D : Held h g n r cap host qb w) {i : Nat} (hi : i < n) (k : Nat) : w.frozen? ⟨qb i, k, none⟩ = false := free_at (D.queue i hi) k
theorem Held.c_index (D : Held h g n r cap host qb w) {i : Nat} (hi : i < n) : w.cell? ⟨qb i, 5, none⟩ = some (.int .i64 (i : Int)) := by
  rw [cell_at (D.queue i hi)]; rfl
theorem Held.c_host (D : Held h g n r cap host qb w) {i : Nat} (hi : i < n) : w.cell? ⟨qb i, 1, none⟩ = some (.string (host i)) := by
  rw [cell_at (D.queue i hi)]; rfl

/-- One Pop: one queue fewer. -/
theorem Held.pop (D : Held h g n (r + 1) cap host qb w) : Held h g n r cap host qb (popped h g r cap (qb r) w) := by
  have hr : r < n := by have := D.fits.1; omega
  obtain ⟨cur, hc, hs, hcur⟩ := D.row
  have gh := D.gh
  have qh := D.qh hr
  have qg := D.qg hr
  unfold popped
  refine ⟨D.far, ⟨by omega, D.fits.2⟩, ?_, ⟨cur.setIfInBounds r (.pointer none), ?_, by simpa using hs, ?_⟩, ?_⟩
  · rw [heap_set_other (Ne.symm qh)]
    have h1 : (w.setCell ⟨g, r, none⟩ (.pointer none)).heap[h]? = some (.cells #[.slice (some ⟨g, 0, none⟩) (r + 1) cap, .nilFunc] 39 (0, 0)) := by
      rw [heap_set_other (Ne.symm gh)]; exact D.head
    rw [heap_set h1]; rfl
  · rw [heap_set_other (Ne.symm qg), heap_set_other gh, heap_set hc]
  · intro i hi
    rw [Array.getElem?_setIfInBounds_ne (by omega)]
    exact hcur i (by omega)
  · intro i hi
    by_cases e : i = r
    · subst e
      have h1 : ((w.setCell ⟨g, i, none⟩ (.pointer none)).setCell ⟨h, 0, none⟩ (.slice (some ⟨g, 0, none⟩) i cap)).heap[qb i]? = some (.cells (qcells (host i) (some ⟨h, 0, none⟩) i) 52 (0, 0)) := by
        rw [heap_set_other qh, heap_set_other qg, D.queue i hi, if_pos (by omega)]
      rw [heap_set h1, if_neg (by omega)]; rfl
    · rw [heap_set_other (D.qq hi hr e), heap_set_other (D.qh hi), heap_set_other (D.qg hi), D.queue i hi]
      by_cases e2 : i < r
      · rw [if_pos e2, if_pos (by omega)]
      · rw [if_neg e2, if_neg (by omega)]

theorem SnapAt.pop (S : SnapAt o n sb w) (D : Held h g n (r + 1) cap host qb w) (hgo : g ≠ o) : SnapAt o n sb (popped h g r cap (qb r) w) := by
  have hr : r < n := by have := D.fits.1; omega
  have oh := D.oh S
  have oq := D.oq S hr
  obtain ⟨cur, hc, hcur⟩ := S
  refine ⟨cur, ?_, hcur⟩
  unfold popped
  rw [heap_set_other oq, heap_set_other oh, heap_set_other (Ne.symm hgo)]
  exact hc

/-- The exchange of i and j. -/
def exch (i j k : Nat) : Nat := if k = i then j else if k = j then i else k

theorem exch_lt {i j k : Nat} (hi : i < n) (hj : j < n) (hk : k < n) : exch i j k < n := by unfold exch; split <;> (try split) <;> omega

/-- The memory behind a Swap. -/
def swapped (g i j qi qj : Nat) (w : World) : World :=
  ((((w.setCell ⟨g, i, none⟩ (.pointer (some ⟨qj, 0, none⟩))).setCell ⟨g, j, none⟩ (.pointer (some ⟨qi, 0, none⟩))).drew).setCell ⟨qj, 5, none⟩ (.int .i64 (i : Int))).setCell ⟨qi, 5, none⟩ (.int .i64 (j : Int))

theorem heap_drew (w : World) : w.drew.heap = w.heap := rfl

theorem Held.swap (D : Held h g n n cap host qb w) {i j : Nat} (hi : i < n) (hj : j < n) :
    Held h g n n cap (fun k => host (exch i j k)) (fun k => qb (exch i j k)) (swapped g i j (qb i) (qb j) w) := by
  obtain ⟨cur, hc, hs, hcur⟩ := D.row
  have hcap := D.fits.2.1
  unfold swapped
  refine ⟨⟨D.far.1, fun k hk => D.far.2 _ (exch_lt hi hj hk)⟩, D.fits, ?_, ⟨(cur.setIfInBounds i (.pointer (some ⟨qb j, 0, none⟩))).setIfInBounds j (.pointer (some ⟨qb i, 0, none⟩)), ?_, by simpa using hs, ?_⟩, ?_⟩
  · rw [heap_set_other (Ne.symm (D.qh hi)), heap_set_other (Ne.symm (D.qh hj)), heap_drew, heap_set_other (Ne.symm D.gh), heap_set_other (Ne.symm D.gh)]
    exact D.head
  · rw [heap_set_other (Ne.symm (D.qg hi)), heap_set_other (Ne.symm (D.qg hj)), heap_drew]
    exact heap_set (heap_set hc _) _
  · intro k hk
    rw [Array.getElem?_setIfInBounds, Array.getElem?_setIfInBounds]
    unfold exch
    by_cases e1 : k = j
    · subst e1
      by_cases e2 : k = i
      · subst e2; simp; omega
      · simp [e2]; omega
    · by_cases e2 : k = i
      · subst e2
        have e3 : ¬ j = k := by omega
        simp [e3]; omega
      · have e3 : ¬ j = k := by omega
        have e4 : ¬ i = k := by omega
        simp only [e1, e2, e3, e4, if_false]
        exact hcur k hk
  · intro k hk
    rw [if_pos hk]
    have hq : ∀ m, m < n → (((w.setCell ⟨g, i, none⟩ (.pointer (some ⟨qb j, 0, none⟩))).setCell ⟨g, j, none⟩ (.pointer (some ⟨qb i, 0, none⟩))).drew).heap[qb m]? = some (.cells (qcells (host m) (some ⟨h, 0, none⟩) m) 52 (0, 0)) := by
      intro m hm
      rw [heap_drew, heap_set_other (D.qg hm), heap_set_other (D.qg hm), D.queue m hm, if_pos hm]
    have hset : ∀ (s : ByteArray) (p : Option Addr) (a b : Int), (qcells s p a).setIfInBounds 5 (.int .i64 b) = qcells s p b := fun s p a b => rfl
    unfold exch
    by_cases e2 : k = i
    · subst e2
      rw [if_pos rfl]
      by_cases e1 : k = j
      · subst e1
        rw [heap_set (heap_set (hq k hk) _), hset, hset]
      · rw [heap_set_other (D.qq hj hk (Ne.symm e1)), heap_set (hq j hj), hset]
    · rw [if_neg e2]
      by_cases e1 : k = j
      · subst e1
        rw [if_pos rfl]
        have h1 : ((((w.setCell ⟨g, i, none⟩ (.pointer (some ⟨qb k, 0, none⟩))).setCell ⟨g, k, none⟩ (.pointer (some ⟨qb i, 0, none⟩))).drew).setCell ⟨qb k, 5, none⟩ (.int .i64 (i : Int))).heap[qb i]? = some (.cells (qcells (host i) (some ⟨h, 0, none⟩) i) 52 (0, 0)) := by
          rw [heap_set_other (D.qq hi hk (Ne.symm e2))]; exact hq i hi
        rw [heap_set h1, hset]
      · rw [if_neg e1, heap_set_other (D.qq hk hi e2), heap_set_other (D.qq hk hj e1)]
        exact hq k hk

theorem SnapAt.swap (S : SnapAt o n sb w) (D : Held h g n n cap host qb w) (hgo : g ≠ o) {i j : Nat} (hi : i < n) (hj : j < n) : SnapAt o n sb (swapped g i j (qb i) (qb j) w) := by
  have oi := D.oq S hi
  have oj := D.oq S hj
  obtain ⟨cur, hc, hcur⟩ := S
  refine ⟨cur, ?_, hcur⟩
  unfold swapped
  rw [heap_set_other oi, heap_set_other oj, heap_drew, heap_set_other (Ne.symm hgo), heap_set_other (Ne.symm hgo)]
  exact hc

theorem below_swapped {B : Nat} {a : World} (hb : Below B a w) (h1 : B ≤ g) {qi qj : Nat} (h2 : B ≤ qi) (h3 : B ≤ qj) (i j : Nat) : Below B a (swapped g i j qi qj w) := by
  unfold swapped
  exact ((((hb.setCell h1 _).setCell h1 _).drew).setCell h3 _).setCell h2 _
end

theorem cell_far {w : World} {b b' o o' : Nat} (h : b ≠ b') (v : Value) : (w.setCell ⟨b, o, none⟩ v).cell? ⟨b', o', none⟩ = w.cell? ⟨b', o', none⟩ :=
  World.cell?_of_block (w := w) (a := ⟨b', o', none⟩) (heap_set_other (Ne.symm h) v)

/-! ### The walk of Swap -/
set_option maxRecDepth 100000 in
set_option maxHeartbeats 2000000 in
theorem swap_ne (h g n cap i j : Nat) (host : Nat → ByteArray) (qb : Nat → Nat) (hi : i < n) (hj : j < n) (hne : i ≠ j) (w : World) (D : Held h g n n cap host qb w) :
    Calls Try.prog 8 #[.pointer (some ⟨h, 0, none⟩), .int .i64 (i : Int), .int .i64 (j : Int)] w fun e w' => e = .returned (.tuple #[]) ∧ swapped g i j (qb i) (qb j) w = w' := by
  have hi' : (i : Int) < (n : Int) := by omega
  have hj' : (j : Int) < (n : Int) := by omega
  have hc := D.c_head
  have ci := D.c_row hi
  have cj := D.c_row hj
  have fi := D.f_row i
  have fj := D.f_row j
  have e1 := D.gh
  have HD : Hid (Held h g n n cap host qb w) := D
  clear D
  go_enter Try.func8, Try.ntmps8
  go_wp2_with fail
  go_region
  generalize hw1 : ((w.setCell ⟨g, i, none⟩ (.pointer (some ⟨qb j, 0, none⟩))).setCell ⟨g, j, none⟩ (.pointer (some ⟨qb i, 0, none⟩))).drew = w1
  have Hw1 : Hid (((w.setCell ⟨g, i, none⟩ (.pointer (some ⟨qb j, 0, none⟩))).setCell ⟨g, j, none⟩ (.pointer (some ⟨qb i, 0, none⟩))).drew = w1) := hw1
  obtain ⟨cur, hcur, hs, _⟩ := HD.out.row
  have hcap := HD.out.fits.2.1
  have hg1 : w1.heap[g]? = some (.cells ((cur.setIfInBounds i (.pointer (some ⟨qb j, 0, none⟩))).setIfInBounds j (.pointer (some ⟨qb i, 0, none⟩))) 29 (0, 0)) := by
    rw [← hw1, heap_drew]; exact heap_set (heap_set hcur _) _
  have hh1 : w1.heap[h]? = some (.cells #[.slice (some ⟨g, 0, none⟩) n cap, .nilFunc] 39 (0, 0)) := by
    rw [← hw1, heap_drew, heap_set_other (Ne.symm e1), heap_set_other (Ne.symm e1)]; exact HD.out.head
  have hq1 : ∀ m, m < n → w1.heap[qb m]? = some (.cells (qcells (host m) (some ⟨h, 0, none⟩) m) 52 (0, 0)) := by
    intro m hm
    rw [← hw1, heap_drew, heap_set_other (HD.out.qg hm), heap_set_other (HD.out.qg hm), HD.out.queue m hm, if_pos hm]
  have d1 : w1.cell? ⟨h, 0, none⟩ = some (.slice (some ⟨g, 0, none⟩) n cap) := by rw [cell_at hh1]; rfl
  have d2 : w1.cell? ⟨g, i, none⟩ = some (.pointer (some ⟨qb j, 0, none⟩)) := by
    rw [cell_at hg1, Array.getElem?_setIfInBounds_ne (Ne.symm hne), Array.getElem?_setIfInBounds]; simp; omega
  have d3 : w1.cell? ⟨g, j, none⟩ = some (.pointer (some ⟨qb i, 0, none⟩)) := by
    rw [cell_at hg1, Array.getElem?_setIfInBounds]; simp; omega
  have d4 : w1.cell? ⟨qb j, 5, none⟩ = some (.int .i64 (j : Int)) := by rw [cell_at (hq1 j hj)]; rfl
  have d5 : w1.frozen? ⟨qb j, 5, none⟩ = false := free_at (hq1 j hj) 5
  have d6 : w1.frozen? ⟨qb i, 5, none⟩ = false := free_at (hq1 i hi) 5
  have d7 : (w1.setCell ⟨qb j, 5, none⟩ (.int .i64 (i : Int))).cell? ⟨h, 0, none⟩ = some (.slice (some ⟨g, 0, none⟩) n cap) := by
    rw [cell_far (HD.out.qh hj)]; exact d1
  have d8 : (w1.setCell ⟨qb j, 5, none⟩ (.int .i64 (i : Int))).cell? ⟨g, j, none⟩ = some (.pointer (some ⟨qb i, 0, none⟩)) := by
    rw [cell_far (HD.out.qg hj)]; exact d3
  have d9 : (w1.setCell ⟨qb j, 5, none⟩ (.int .i64 (i : Int))).cell? ⟨qb i, 5, none⟩ = some (.int .i64 (i : Int)) := by
    rw [cell_far (HD.out.qq hj hi (Ne.symm hne)), cell_at (hq1 i hi)]; rfl
  clear hw1 hg1 hh1 hq1 hc ci cj fi fj e1 hcur hs
  go_wp2_with fail
  go_end0
  exact ⟨rfl, by unfold swapped; rw [Hw1.out]⟩

set_option maxRecDepth 100000 in
set_option maxHeartbeats 2000000 in
theorem swap_eq (h g n cap i : Nat) (host : Nat → ByteArray) (qb : Nat → Nat) (hi : i < n) (w : World) (D : Held h g n n cap host qb w) :
    Calls Try.prog 8 #[.pointer (some ⟨h, 0, none⟩), .int .i64 (i : Int), .int .i64 (i : Int)] w fun e w' => e = .returned (.tuple #[]) ∧ swapped g i i (qb i) (qb i) w = w' := by
  have hi' : (i : Int) < (n : Int) := by omega
  have hc := D.c_head
  have ci := D.c_row hi
  have fi := D.f_row i
  have e1 := D.gh
  have HD : Hid (Held h g n n cap host qb w) := D
  clear D
  go_enter Try.func8, Try.ntmps8
  go_wp2_with fail
  go_region
  generalize hw1 : ((w.setCell ⟨g, i, none⟩ (.pointer (some ⟨qb i, 0, none⟩))).setCell ⟨g, i, none⟩ (.pointer (some ⟨qb i, 0, none⟩))).drew = w1
  have Hw1 : Hid (((w.setCell ⟨g, i, none⟩ (.pointer (some ⟨qb i, 0, none⟩))).setCell ⟨g, i, none⟩ (.pointer (some ⟨qb i, 0, none⟩))).drew = w1) := hw1
  obtain ⟨cur, hcur, hs, _⟩ := HD.out.row
  have hcap := HD.out.fits.2.1
  have hg1 : w1.heap[g]? = some (.cells ((cur.setIfInBounds i (.pointer (some ⟨qb i, 0, none⟩))).setIfInBounds i (.pointer (some ⟨qb i, 0, none⟩))) 29 (0, 0)) := by
    rw [← hw1, heap_drew]; exact heap_set (heap_set hcur _) _
  have hh1 : w1.heap[h]? = some (.cells #[.slice (some ⟨g, 0, none⟩) n cap, .nilFunc] 39 (0, 0)) := by
    rw [← hw1, heap_drew, heap_set_other (Ne.symm e1), heap_set_other (Ne.symm e1)]; exact HD.out.head
  have hq1 : w1.heap[qb i]? = some (.cells (qcells (host i) (some ⟨h, 0, none⟩) i) 52 (0, 0)) := by
    rw [← hw1, heap_drew, heap_set_other (HD.out.qg hi), heap_set_other (HD.out.qg hi), HD.out.queue i hi, if_pos hi]
  have d1 : w1.cell? ⟨h, 0, none⟩ = some (.slice (some ⟨g, 0, none⟩) n cap) := by rw [cell_at hh1]; rfl
  have d3 : w1.cell? ⟨g, i, none⟩ = some (.pointer (some ⟨qb i, 0, none⟩)) := by
    rw [cell_at hg1, Array.getElem?_setIfInBounds]; simp; omega
  have d4 : w1.cell? ⟨qb i, 5, none⟩ = some (.int .i64 (i : Int)) := by rw [cell_at hq1]; rfl
  have d5 : w1.frozen? ⟨qb i, 5, none⟩ = false := free_at hq1 5
  have d7 : (w1.setCell ⟨qb i, 5, none⟩ (.int .i64 (i : Int))).cell? ⟨h, 0, none⟩ = some (.slice (some ⟨g, 0, none⟩) n cap) := by
    rw [cell_far (HD.out.qh hi)]; exact d1
  have d8 : (w1.setCell ⟨qb i, 5, none⟩ (.int .i64 (i : Int))).cell? ⟨g, i, none⟩ = some (.pointer (some ⟨qb i, 0, none⟩)) := by
    rw [cell_far (HD.out.qg hi)]; exact d3
  have d9 : (w1.setCell ⟨qb i, 5, none⟩ (.int .i64 (i : Int))).cell? ⟨qb i, 5, none⟩ = some (.int .i64 (i : Int)) := World.cell?_setCell_same _ _ _ d4
  clear hw1 hg1 hh1 hq1 hc ci fi e1 hcur hs
  go_wp2_with fail
  go_end0
  exact ⟨rfl, by unfold swapped; rw [Hw1.out]⟩

theorem swap_t (h g n cap i j : Nat) (host : Nat → ByteArray) (qb : Nat → Nat) (hi : i < n) (hj : j < n) (w : World) (D : Held h g n n cap host qb w) :
    Calls Try.prog 8 #[.pointer (some ⟨h, 0, none⟩), .int .i64 (i : Int), .int .i64 (j : Int)] w fun e w' => e = .returned (.tuple #[]) ∧ swapped g i j (qb i) (qb j) w = w' := by
  by_cases e : i = j
  · subst e; exact swap_eq h g n cap i host qb hi w D
  · exact swap_ne h g n cap i j host qb hi hj e w D
end Go.Proofs.Qxb6615497a
