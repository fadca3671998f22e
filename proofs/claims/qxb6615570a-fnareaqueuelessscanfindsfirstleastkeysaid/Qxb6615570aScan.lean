/-
  THE WALK of FnAreaQueueLessScanFindsFirstLeastKey at a slice of 1 to 16384 parts: four loops, the queue taken by its contracts, the plain law out of Qxb6615570aPlain.
-/
import Derived.Test.Qxb6615570aQueue
import Derived.Test.Qxb6615570aPlain
import Derived.LoopTactic
import Derived.Outline
namespace Go.Proofs.Qxb6615570a
open Go.RowKit

/-- The kit lacks this law: a store of a float. -/
theorem run_store_float (P : Program) (w : World) (a : Addr) (m : Mode) (k : FloatKind) (n : Nat) : (store a (.float k n) m).run P w = stored P w a (.float k n) m := run_store P w a _ m rfl
attribute [local go_sem] run_store_float

/-- The parts that came in: their five cells each. -/
def Parts (w : World) (b off len : Nat) (key : Nat → Nat) (pi pj pl pd : Nat → Int) : Prop :=
  b < w.heap.size ∧ ∀ i, i < len → w.cell? ⟨b, off + i * 5, none⟩ = some (.float .f64 (key i)) ∧ w.cell? ⟨b, off + i * 5 + 1, none⟩ = some (.int .i64 (pi i)) ∧ w.cell? ⟨b, off + i * 5 + 2, none⟩ = some (.int .i64 (pj i)) ∧
    w.cell? ⟨b, off + i * 5 + 3, none⟩ = some (.int .i64 (pl i)) ∧ w.cell? ⟨b, off + i * 5 + 4, none⟩ = some (.int .u64 (pd i))

def cellsOf (key : Nat → Nat) (pi pj pl pd : Nat → Int) (k : Nat) : List Value := (List.range k).flatMap fun i => five (key i) (pi i) (pj i) (pl i) (pd i)


theorem Queue.start (w : World) : Queue w.heap.size 0 [] (w.alloc (.cells #[.slice none 0 0] 29)) := by
  refine ⟨.slice none 0 0, ?_, ?_, World.ownsRow_nil _ _ _ _, by simp⟩
  · rw [cell_of_row (w.alloc _) w.heap.size 0 _ 29 (0, 0) (heap_alloc_new w _)]; rfl
  · rw [frozen?_alloc_cells]; simp [World.frozen?]

theorem Queue.alloc {q k : Nat} {xs : List Value} {w : World} (h : Queue q k xs w) (o : Obj) : Queue q k xs (w.alloc o) := by
  obtain ⟨v, hv, hf, hown, hq⟩ := h
  have hb : Below (q + 1) w (w.alloc o) := (Below.refl (q + 1) w).alloc hq o
  exact ⟨v, (hb.cell (p := ⟨q, 0, none⟩) (by simp)).trans hv, (hb.frozen (p := ⟨q, 0, none⟩) (by simp)).trans hf, hown.alloc o, Nat.le_trans hq hb.size⟩

theorem Queue.drewN {q k : Nat} {xs : List Value} {w : World} (h : Queue q k xs w) (n : Nat) : Queue q k xs (w.drewN n) := by
  induction n generalizing w with
  | zero => exact h
  | succ n ih => exact ih (w := w.drew) h

theorem cellsOf_succ (key : Nat → Nat) (pi pj pl pd : Nat → Int) (k : Nat) : cellsOf key pi pj pl pd (k + 1) = cellsOf key pi pj pl pd k ++ five (key k) (pi k) (pj k) (pl k) (pd k) := by
  simp [cellsOf, List.range_succ, List.flatMap_append]

theorem below_drewN' {B : Nat} {a w : World} (h : Below B a w) (n : Nat) : Below B a (w.drewN n) := ⟨h.os, h.tape, h.output, h.size, h.block⟩

theorem cellsOf_get (key : Nat → Nat) (pi pj pl pd : Nat → Int) (k i : Nat) (hi : i < k) : (cellsOf key pi pj pl pd k)[i * 5]? = some (.float .f64 (key i)) := by
  have hl : ∀ n, (cellsOf key pi pj pl pd n).length = n * 5 := by
    intro n
    induction n with
    | zero => rfl
    | succ n ih => rw [cellsOf_succ, List.length_append, ih]; simp [five]; omega
  induction k with
  | zero => omega
  | succ k ih =>
    rw [cellsOf_succ]
    by_cases h : i < k
    · rw [List.getElem?_append_left (by rw [hl]; omega)]; exact ih h
    · obtain rfl : i = k := by omega
      rw [List.getElem?_append_right (by rw [hl]; omega), hl]
      simp [five]

theorem Queue.opened {q k : Nat} {key : Nat → Nat} {pi pj pl pd : Nat → Int} {w : World} (h : Queue q k (cellsOf key pi pj pl pd k) w) (hk : 0 < k) :
    ∃ g cap, w.cell? ⟨q, 0, none⟩ = some (.slice (some ⟨g, 0, none⟩) k cap) ∧ Hid (∀ i, i < k → w.cell? ⟨g, i * 5, none⟩ = some (.float .f64 (key i))) := by
  obtain ⟨v, hv, hf, hown, hq⟩ := h
  rcases hown.2 with ⟨_, h0⟩ | ⟨g, cap, cur, rfl, _⟩
  · omega
  · refine ⟨g, cap, hv, fun i hi => ?_⟩
    have := hown.cells (g := g) rfl (i * 5) _ (cellsOf_get key pi pj pl pd k i hi)
    have hadd : (⟨g, 0, none⟩ : Addr).add (i * 5) = ⟨g, i * 5, none⟩ := by unfold Addr.add; split <;> simp_all
    rwa [hadd] at this

set_option maxHeartbeats 1000000 in
theorem main_t (b off len cap : Nat) (key : Nat → Nat) (pi pj pl pd : Nat → Int) (h0 : 0 < len) (h1 : len ≤ 16384) (w : World) (hP : Parts w b off len key pi pj pl pd) :
    Calls Try.prog 3 #[.slice (some ⟨b, off, none⟩) len cap] w fun e w' => e = .returned (.bool true) ∧ Below w.heap.size w w' := by
  have g1 : ¬ (16384 : Int) < (len : Int) := by omega
  have g2 : ((len : Int) == 0) = false := by simp; omega
  go_enter Try.func3, Try.ntmps3
  go_wp2_with fail
  refine (bytes_t _ len cap (by omega) _).mono ?_
  rintro e w' ⟨rfl, rfl⟩
  go_wp2_with fail
  go_loopw [3] (fun i wr => ∃ k : Nat, k ≤ len ∧ i = .int .i64 k ∧ Below w'.heap.size w' wr ∧ Hid (∀ j, j < k → Ieee.double.order (key j) (key j) = some .eq))
    (fun i _ => len - (intOf i).toNat)
  case atStart => exact ⟨0, Nat.zero_le _, rfl, Below.refl _ _, fun j hj => absurd hj (Nat.not_lt_zero _)⟩
  case round =>
    obtain ⟨k, hk, rfl, hb, hkeys⟩ := hrel
    by_cases hlt : k < len
    · have hc : wr.cell? ⟨b, off + k * 5, none⟩ = some (.float .f64 (key k)) := (hb.cell (p := ⟨b, off + k * 5, none⟩) hP.1).trans (hP.2 k hlt).1
      have hlt' : (k : Int) < (len : Int) := by omega
      go_wp2_with fail
      go_quiet (fail)
      go_wp2_with fail
      · go_ret
        exact ⟨rfl, below_drewN' hb _⟩
      · have hkk : (Ieee.double.order (key k) (key k) != some Ordering.eq) = false := by assumption
        go_roundw
        case rel =>
          refine ⟨k + 1, by omega, by go_num, below_drewN' hb _, fun j hj => ?_⟩
          by_cases e : j = k
          · subst e; simpa using hkk
          · exact hkeys.out j (by omega)
        case measure => simp [intOf]; omega
    · have hlt' : decide ((k : Int) < (len : Int)) = false := by simp; omega
      obtain rfl : k = len := by omega
      clear hlt
      go_wp2_with fail
      refine (empty_t _).mono ?_
      rintro e w1 ⟨rfl, rfl⟩
      go_wp2_with fail
      obtain ⟨q, hq⟩ : ∃ q, q = w1.heap.size := ⟨_, rfl⟩
      have HQ : Hid (q = w1.heap.size) := hq
      rw [← hq]
      clear hq
      go_loopw [5, 6] (fun i _ wr => ∃ j : Nat, j ≤ k ∧ i = .int .i64 j ∧ Below w'.heap.size w' wr ∧ Queue q j (cellsOf key pi pj pl pd j) wr)
        (fun i _ _ => k - (intOf i).toNat)
      case atStart => exact ⟨0, Nat.zero_le _, rfl, hb.alloc hb.size _, by rw [HQ.out]; exact Queue.start w1⟩
      case round =>
        obtain ⟨j, hj, rfl, hb2, hQu⟩ := hrel
        by_cases hlt2 : j < k
        · have hlt2' : (j : Int) < (k : Int) := by omega
          obtain ⟨c0, c1, c2, c3, c4⟩ := hP.2 j hlt2
          have hb3 : ∀ o : Nat, wr.cell? ⟨b, o, none⟩ = w'.cell? ⟨b, o, none⟩ := fun o => hb2.cell (p := ⟨b, o, none⟩) hP.1
          rw [← hb3] at c0 c1 c2 c3 c4
          clear hb3
          go_wp2_with fail
          refine (zzpush_t q j _ (key j) (pi j) (pj j) (pl j) (pd j) (by omega) _ (hQu.alloc _)).mono ?_
          rintro e w2 ⟨rfl, hQ2, hbq⟩
          clear c0 c1 c2 c3 c4
          have hb4 : Below w'.heap.size w' w2 := (hb2.alloc hb2.size _).trans (hbq.mono (by rw [HQ.out]; exact hb.size))
          rw [← cellsOf_succ] at hQ2
          clear hbq hQu hb2
          go_wp2_with fail
          go_roundw
          case rel => exact ⟨j + 1, by omega, by go_num, hb4, hQ2⟩
          case measure => simp [intOf]; omega
        · have hlt2' : decide ((j : Int) < (k : Int)) = false := by simp; omega
          obtain rfl : j = k := by omega
          clear hlt2
          go_wp2_with fail
          obtain ⟨wo, rfl⟩ : ∃ wo : World, wo = wr := ⟨_, rfl⟩
          go_loopw [7, 8] (fun x y wr => ∃ m c : Nat, m < c ∧ c ≤ j ∧ x = .int .i64 m ∧ y = .int .i64 c ∧ Below w'.heap.size w' wr ∧ Queue q j (cellsOf key pi pj pl pd j) wr ∧ Hid (Plain.Found key m c))
            (fun _ y _ => j - (intOf y).toNat)
          case atStart => exact ⟨0, 1, by omega, h0, rfl, rfl, hb2, hQu, Plain.found_start key (hkeys.out 0 h0)⟩
          case round =>
            obtain ⟨m, c, hmc, hcj, rfl, rfl, hb5, hQ5, hfd⟩ := hrel
            by_cases hlt3 : c < j
            · have hlt3' : (c : Int) < (j : Int) := by omega
              obtain ⟨g, gc, hgc, hgs⟩ := hQ5.opened h0
              by_cases hl : Ieee.double.order (key c) (key m) = some .lt
              · have hl' : (Ieee.double.order (key c) (key m) == some .lt) = true := by rw [hl]; rfl
                clear hl
                go_wp2_with fail
                refine (zzless_t g j gc c m (key c) (key m) hlt3 (by omega) _ (hgs.out c hlt3) (hgs.out m (by omega))).mono ?_
                rintro e w3 ⟨rfl, nq, rfl⟩
                go_wp2_with fail
                go_roundw
                case rel => exact ⟨c, c + 1, by omega, by omega, rfl, by go_num, below_drewN' hb5 _, hQ5.drewN _, Plain.found_new key m c (fun i hi => hkeys.out i (by omega)) hmc hfd.out (by simpa using hl')⟩
                case measure => simp [intOf]; omega
              · have hl' : (Ieee.double.order (key c) (key m) == some .lt) = false := by simpa using hl
                clear hl
                go_wp2_with fail
                refine (zzless_t g j gc c m (key c) (key m) hlt3 (by omega) _ (hgs.out c hlt3) (hgs.out m (by omega))).mono ?_
                rintro e w3 ⟨rfl, nq, rfl⟩
                go_wp2_with fail
                go_roundw
                case rel => exact ⟨m, c + 1, by omega, by omega, rfl, by go_num, below_drewN' hb5 _, hQ5.drewN _, Plain.found_old key m c hfd.out (by simpa using hl')⟩
                case measure => simp [intOf]; omega
            · have hlt3' : decide ((c : Int) < (j : Int)) = false := by simp; omega
              obtain rfl : c = j := by omega
              clear hlt3
              have hcm : wr.cell? ⟨b, off + m * 5, none⟩ = some (.float .f64 (key m)) := (hb5.cell (p := ⟨b, off + m * 5, none⟩) hP.1).trans (hP.2 m hmc).1
              have hmc' : (m : Int) < (c : Int) := by omega
              go_wp2_with fail
              obtain ⟨wp, rfl⟩ : ∃ wp : World, wp = wr := ⟨_, rfl⟩
              clear hQ5 hcm
              go_loopw [10] (fun x wr => ∃ i : Nat, i ≤ c ∧ x = .int .i64 i ∧ Below w'.heap.size w' wr)
                (fun x _ => c - (intOf x).toNat)
              case atStart => exact ⟨0, by omega, rfl, hb5⟩
              case round =>
                obtain ⟨i, hic, rfl, hb6⟩ := hrel
                by_cases hlt4 : i < c
                · have hlt4' : (i : Int) < (c : Int) := by omega
                  have hci : wr.cell? ⟨b, off + i * 5, none⟩ = some (.float .f64 (key i)) := (hb6.cell (p := ⟨b, off + i * 5, none⟩) hP.1).trans (hP.2 i hlt4).1
                  have t1 : (FloatKind.f64.format.order (key i) (key m) == some .lt) = false := beq_eq_false_iff_ne.2 (hfd.out.1 i hlt4)
                  by_cases him : i < m
                  · have him' : (i : Int) < (m : Int) := by omega
                    have t2 : (FloatKind.f64.format.order (key i) (key m) == some .gt) = true := beq_iff_eq.2 (hfd.out.2 i him)
                    go_wp2_with fail
                    go_roundw
                    case rel => exact ⟨i + 1, by omega, by go_num, hb6⟩
                    case measure => simp [intOf]; omega
                  · have him' : decide ((i : Int) < (m : Int)) = false := by simp; omega
                    go_wp2_with fail
                    go_roundw
                    case rel => exact ⟨i + 1, by omega, by go_num, hb6⟩
                    case measure => simp [intOf]; omega
                · have hlt4' : decide ((i : Int) < (c : Int)) = false := by simp; omega
                  go_wp2_with fail
                  go_ret
                  exact ⟨rfl, hb6⟩
end Go.Proofs.Qxb6615570a
