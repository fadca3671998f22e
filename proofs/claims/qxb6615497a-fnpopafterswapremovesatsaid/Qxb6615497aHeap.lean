/-
  THE HEAP OF QUEUES in memory, and the walk of ZZnewQueueHeap.
-/
import Derived.Test.Qxb6615497aRows
import Derived.WalkKit
import Derived.WalkSpells
import Derived.WalkLawsBesides
import Derived.Laws.EntriesVeiled
import Derived.LoopTactic
namespace Go.Proofs.Qxb6615497a
open Go.RowKit

/-- The cells of a queue: its host, the heap that holds it, its index; the rest at zero. -/
def qcells (host : ByteArray) (hp : Option Addr) (i : Int) : Array Value :=
  #[.pointer none, .string host, .pointer none, .slice none 0 0, .pointer hp, .int .i64 i, .int .u64 0, .int .i64 0, .pointer none, .chan none, .pointer none, .int .i64 0, .bool false]

def ptrs (qb : Nat → Nat) (k : Nat) : List Value := (List.range k).map fun i => .pointer (some ⟨qb i, 0, none⟩)

theorem ptrs_succ (qb : Nat → Nat) (k : Nat) : ptrs qb (k + 1) = ptrs qb k ++ [.pointer (some ⟨qb k, 0, none⟩)] := by
  simp [ptrs, List.range_succ]

theorem ptrs_congr {qb qb' : Nat → Nat} {k : Nat} (h : ∀ i, i < k → qb i = qb' i) : ptrs qb k = ptrs qb' k := by
  unfold ptrs
  refine List.map_congr_left fun i hi => ?_
  rw [h i (by simpa using hi)]

/-- The queues, each in a block of its own behind h. -/
def QueuesAt (h k : Nat) (host : Nat → ByteArray) (qb : Nat → Nat) (w : World) : Prop :=
  ∀ i, i < k → h < qb i ∧ w.heap[qb i]? = some (.cells (qcells (host i) (some ⟨h, 0, none⟩) i) 52 (0, 0))

/-- The heap at block h holds k queues. -/
def HeapAt (h k : Nat) (host : Nat → ByteArray) (qb : Nat → Nat) (w : World) : Prop :=
  ∃ v, w.heap[h]? = some (.cells #[v, .nilFunc] 39 (0, 0)) ∧ w.ownsRow (h + 1) 29 1 v k (ptrs qb k) ∧ QueuesAt h k host qb w

theorem lt_of_heap {w : World} {b : Nat} {o : Obj} (h : w.heap[b]? = some o) : b < w.heap.size := (Array.getElem?_eq_some_iff.1 h).1

theorem cell_at {w : World} {b : Nat} {cs : Array Value} {t : TypeId} (h : w.heap[b]? = some (.cells cs t (0, 0))) (o : Nat) : w.cell? ⟨b, o, none⟩ = cs[o]? :=
  cell_of_row w b o cs t (0, 0) h

theorem free_at {w : World} {b : Nat} {cs : Array Value} {t : TypeId} (h : w.heap[b]? = some (.cells cs t (0, 0))) (o : Nat) : w.frozen? ⟨b, o, none⟩ = false := by
  simp [World.frozen?, h]

theorem heap_set {w : World} {b o : Nat} {cs : Array Value} {t : TypeId} (h : w.heap[b]? = some (.cells cs t (0, 0))) (v : Value) : (w.setCell ⟨b, o, none⟩ v).heap[b]? = some (.cells (cs.setIfInBounds o v) t (0, 0)) := by
  rw [setCell_eq_setRow w b o cs t (0, 0) v h]
  exact setRow_heap w b cs _ t _ h

theorem heap_set_other {w : World} {b b' o : Nat} (h : b' ≠ b) (v : Value) : (w.setCell ⟨b, o, none⟩ v).heap[b']? = w.heap[b']? := Below.heap_setCell w ⟨b, o, none⟩ v b' h

theorem Try.info29 : (Try.prog.info? 29).map (fun i => (i.zero, i.size, i.bytes)) = some (some (.pointer none), 1, 8) := by kernel_rfl

theorem app_step {ops : Array Oper} {rest : List Oper} {o : Oper} {a : Act} {Q : Exit → Act → World → Prop} (hgd : o.guard = none)
    (hop : o.op = Op.call { callee := Callee.builtin Builtin.append, args := #[.tmp 19, .tmp 25], argTypes := #[26, 26] })
    (h k : Nat) (host : Nat → ByteArray) (qb : Nat → Nat) (s : ByteArray) (wr : World) (v : Value) (hk : k ≤ 1000000) (hv : wr.heap[h]? = some (.cells #[v, .nilFunc] 39 (0, 0))) (hown : wr.ownsRow (h + 1) 29 1 v k (ptrs qb k)) (hq : QueuesAt h k host qb wr) (hs' : s = host k)
    (hs : a.eval (.tmp 19) = v) (hx : a.eval (.tmp 25) = .slice (some ⟨wr.heap.size + 1, 0, none⟩) 1 1)
    (hK : ∀ g cap w', w'.cell? ⟨h, 0, none⟩ = some v → w'.frozen? ⟨h, 0, none⟩ = false →
      Hid (HeapAt h (k + 1) host (fun i => if i = k then wr.heap.size else qb i) (w'.setCell ⟨h, 0, none⟩ (.slice (some ⟨g, 0, none⟩) (k + 1) cap)) ∧ Below h wr (w'.setCell ⟨h, 0, none⟩ (.slice (some ⟨g, 0, none⟩) (k + 1) cap))) →
      wpList Try.prog ops Q rest (a.put o.dst (.slice (some ⟨g, 0, none⟩) (k + 1) cap)) w') :
    wpList Try.prog ops Q (o :: rest) a ((wr.alloc (.cells #[.pointer none, .string s, .pointer none, .slice none 0 0, .pointer (some ⟨h, 0, none⟩), .int .i64 (k : Int), .int .u64 0, .int .i64 0, .pointer none, .chan none, .pointer none, .int .i64 0, .bool false] 52)).alloc (.cells #[.pointer (some ⟨wr.heap.size, 0, none⟩)] 29)) := by
  obtain ⟨i0, hi, hz0, hz1, hz2⟩ := info_parts Try.info29
  have hh := lt_of_heap hv
  have own1 := (hown.alloc (.cells (qcells s (some ⟨h, 0, none⟩) k) 52)).alloc (.cells #[.pointer (some ⟨wr.heap.size, 0, none⟩)] 29)
  have bel1 : Below (h + 1) wr ((wr.alloc (.cells (qcells s (some ⟨h, 0, none⟩) k) 52)).alloc (.cells #[.pointer (some ⟨wr.heap.size, 0, none⟩)] 29)) := ((Below.refl (h + 1) wr).alloc hh _).alloc (by simp; omega) _
  have all1 : Below wr.heap.size wr ((wr.alloc (.cells (qcells s (some ⟨h, 0, none⟩) k) 52)).alloc (.cells #[.pointer (some ⟨wr.heap.size, 0, none⟩)] 29)) := ((Below.refl _ wr).alloc (Nat.le_refl _) _).alloc (by simp) _
  have hnq : ((wr.alloc (.cells (qcells s (some ⟨h, 0, none⟩) k) 52)).alloc (.cells #[.pointer (some ⟨wr.heap.size, 0, none⟩)] 29)).heap[wr.heap.size]? = some (.cells (qcells s (some ⟨h, 0, none⟩) k) 52 (0, 0)) := by
    rw [Below.heap_alloc _ _ _ (by simp)]
    exact heap_alloc_new wr _
  have hnp : ((wr.alloc (.cells (qcells s (some ⟨h, 0, none⟩) k) 52)).alloc (.cells #[.pointer (some ⟨wr.heap.size, 0, none⟩)] 29)).heap[wr.heap.size + 1]? = some (.cells #[.pointer (some ⟨wr.heap.size, 0, none⟩)] 29 (0, 0)) := by
    have := heap_alloc_new (wr.alloc (.cells (qcells s (some ⟨h, 0, none⟩) k) 52)) (.cells #[.pointer (some ⟨wr.heap.size, 0, none⟩)] 29)
    simpa using this
  show wpList Try.prog ops Q (o :: rest) a ((wr.alloc (.cells (qcells s (some ⟨h, 0, none⟩) k) 52)).alloc (.cells #[.pointer (some ⟨wr.heap.size, 0, none⟩)] 29))
  generalize ((wr.alloc (.cells (qcells s (some ⟨h, 0, none⟩) k) 52)).alloc (.cells #[.pointer (some ⟨wr.heap.size, 0, none⟩)] 29)) = w1 at *
  refine wpList_append_own w1 hgd _ _ 26 hop (h + 1) 29 i0 _ 1 8 Try.underlying26 hi hz0 hz1 hz2 rfl (by decide) v k (ptrs qb k) hs own1 _ 1 1 [.pointer (some ⟨wr.heap.size, 0, none⟩)] hx rfl ?_ (by simp [Value.oneCell']) (by simp [maxLen]; omega) (by omega) (by have := bel1.size; omega) ?_
  · intro j u hj
    match j, hj with
    | 0, hj =>
      simp at hj
      subst hj
      have hadd : (⟨wr.heap.size + 1, 0, none⟩ : Addr).add 0 = ⟨wr.heap.size + 1, 0, none⟩ := by simp [Addr.add]
      rw [hadd, cell_at hnp]; rfl
  · intro v' w' hown' hgrow _
    rcases hown'.2 with ⟨_, h0⟩ | ⟨g, cap, cur, rfl, hb, hg, hcap⟩
    · omega
    · have hne : some h ≠ v.ownBlock := fun e => by have := own1.lt h e.symm; omega
      have hh1 : w1.heap[h]? = some (.cells #[v, .nilFunc] 39 (0, 0)) := (bel1.block h (by omega)).trans hv
      have hh2 : w'.heap[h]? = some (.cells #[v, .nilFunc] 39 (0, 0)) := (hgrow.block h (lt_of_heap hh1) hne).trans hh1
      have bel2 : Below (h + 1) wr w' := bel1.grown hgrow (by have := bel1.size; omega) (fun k hk' => (own1.lt k hk').1)
      have hq1 : ∀ i, i < k + 1 → h < (if i = k then wr.heap.size else qb i) ∧ w1.heap[if i = k then wr.heap.size else qb i]? = some (.cells (qcells (host i) (some ⟨h, 0, none⟩) i) 52 (0, 0)) := by
        intro i hi
        by_cases e : i = k
        · subst e; rw [if_pos rfl]; exact ⟨hh, by rw [hnq, hs']⟩
        · rw [if_neg e]
          obtain ⟨q1, q2⟩ := hq i (by omega)
          exact ⟨q1, (all1.block _ (lt_of_heap q2)).trans q2⟩
      have hq2 : ∀ i, i < k + 1 → w'.heap[if i = k then wr.heap.size else qb i]? = some (.cells (qcells (host i) (some ⟨h, 0, none⟩) i) 52 (0, 0)) := by
        intro i hi
        obtain ⟨q1, q2⟩ := hq1 i hi
        refine (hgrow.block _ (lt_of_heap q2) ?_).trans q2
        intro e
        rcases own1.2 with ⟨rfl, _⟩ | ⟨g1, cap1, cur1, rfl, _, hg1, _⟩
        · simp [Value.ownBlock] at e
        · simp [Value.ownBlock] at e
          rw [e, hg1] at q2
          simp at q2
      refine hK g cap w' ?_ ?_ ⟨⟨_, heap_set hh2 _, ?_, ?_⟩, ?_⟩
      · rw [cell_at hh2]; rfl
      · exact free_at hh2 0
      · refine ownsRow_setCell_below ?_ (by simp) _
        have e2 : ptrs qb k ++ [.pointer (some ⟨wr.heap.size, 0, none⟩)] = ptrs (fun i => if i = k then wr.heap.size else qb i) (k + 1) := by
          rw [ptrs_succ, if_pos rfl]
          rw [ptrs_congr (qb := qb) (qb' := fun i => if i = k then wr.heap.size else qb i) fun i hi => by rw [if_neg (by omega)]]
        rw [← e2]
        exact hown'
      · intro i hi
        refine ⟨(hq1 i hi).1, ?_⟩
        have hlt := (hq1 i hi).1
        show (w'.setCell ⟨h, 0, none⟩ _).heap[if i = k then wr.heap.size else qb i]? = _
        rw [heap_set_other (by omega)]
        exact hq2 i hi
      · exact (bel2.mono (Nat.le_succ h)).setCell (Nat.le_refl h) _

set_option maxHeartbeats 1000000 in
theorem newHeap_t (a : Option Addr) (n cap : Nat) (host : Nat → ByteArray) (hn : n ≤ 32768) (w : World) (hc : ∀ i, i < n → ∃ c, a = some ⟨c, 0, none⟩ ∧ c < w.heap.size ∧ w.cell? ⟨c, i, none⟩ = some (.string (host i))) :
    Calls Try.prog 6 #[.slice a n cap] w fun e w' => e = .returned (.pointer (some ⟨w.heap.size, 0, none⟩)) ∧ ∃ qb, HeapAt w.heap.size n host qb w' ∧ Below w.heap.size w w' := by
  have Hc : Hid _ := hc
  clear hc
  obtain ⟨h, hh⟩ : ∃ h, h = w.heap.size := ⟨_, rfl⟩
  have HH : Hid (h = w.heap.size) := hh
  go_enter Try.func6, Try.ntmps6
  go_wp2_with fail
  rw [← hh]
  clear hh
  go_loopw [10, 4, 5] (fun i _ _ wr => ∃ k : Nat, k ≤ n ∧ i = .int .i64 k ∧ ∃ qb, HeapAt h k host qb wr ∧ Below h w wr)
    (fun i _ _ _ => n - (intOf i).toNat)
  case atStart =>
    refine ⟨0, Nat.zero_le _, rfl, fun _ => 0, ⟨.slice none 0 0, ?_, World.ownsRow_nil _ _ _ _, fun i hi => absurd hi (Nat.not_lt_zero _)⟩, ?_⟩
    · rw [HH.out]; exact heap_alloc_new w _
    · rw [HH.out]; exact (Below.refl _ w).alloc (Nat.le_refl _) _
  case round =>
    obtain ⟨k, hk, rfl, qb, ⟨v, hv, hown, hq⟩, hb⟩ := hrel
    by_cases hlt : k < n
    · have hlt' : (k : Int) < (n : Int) := by omega
      obtain ⟨c, rfl, hcl, hcc⟩ := Hc.out k hlt
      have hck : wr.cell? ⟨c, k, none⟩ = some (.string (host k)) := (hb.cell (p := ⟨c, k, none⟩) (by rw [HH.out]; exact hcl)).trans hcc
      have hvc : wr.cell? ⟨h, 0, none⟩ = some v := by rw [cell_at hv]; rfl
      have Hv : Hid _ := hv
      have Ho : Hid (wr.ownsRow (h + 1) 29 1 v k (ptrs qb k)) := hown
      have Hq : Hid (QueuesAt h k host qb wr) := hq
      clear hv hown hq hcc
      go_wp2_with (at_builtin; refine app_step rfl rfl h k host qb _ wr v (by omega) Hv.out Ho.out Hq.out rfl rfl rfl ?_; intro g gc w' hc' hf' HF)
      go_roundw
      case rel => exact ⟨k + 1, by omega, by go_num, _, HF.out.1, hb.trans HF.out.2⟩
      case measure => simp [intOf]; omega
    · have hlt' : decide ((k : Int) < (n : Int)) = false := by simp; omega
      obtain rfl : k = n := by omega
      have HF : Hid (HeapAt h k host qb wr) := ⟨v, hv, hown, hq⟩
      clear hv hown hq
      go_wp2_with fail
      go_ret
      refine ⟨by rw [← HH.out]; rfl, qb, ?_, ?_⟩
      · rw [← HH.out]; exact HF.out
      · rw [← HH.out]; exact hb
end Go.Proofs.Qxb6615497a
