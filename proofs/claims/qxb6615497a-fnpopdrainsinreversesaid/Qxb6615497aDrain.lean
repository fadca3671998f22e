/-
  THE WALK of FnPopDrainsInReverse.
-/
import Derived.Test.Qxb6615497aCopy
import Derived.Deep.QuietTactic
import Derived.BigQuiet
namespace Go.Proofs.Qxb6615497a
open Go.RowKit

theorem below_drewN' {B : Nat} {a w : World} (h : Below B a w) (n : Nat) : Below B a (w.drewN n) := ⟨h.os, h.tape, h.output, h.size, h.block⟩
theorem Drain.drewN {h g o n r cap : Nat} {host : Nat → ByteArray} {qb : Nat → Nat} {w : World} (D : Drain h g o n r cap host qb w) (m : Nat) : Drain h g o n r cap host qb (w.drewN m) := ⟨D.apart, D.far, D.fits, D.head, D.row, D.snap, D.queue⟩

set_option maxRecDepth 100000 in
set_option maxHeartbeats 2000000 in
theorem drain_some (x : Addr) (n c : Nat) (host : Nat → ByteArray) (hn : n ≤ 32768) (w : World) (hH : Hosts (some x) n host w) :
    Calls Try.prog 4 #[.slice (some x) n c] w fun e w' => e = .returned (.bool true) ∧ Below w.heap.size w w' := by
  have hn' : ¬ (32768 : Int) < (n : Int) := by omega
  have hmk := make_run n hn
  have hcp := copy_run x n c host w hH
  have hnil := fun (W : World) (a : Addr) (n c : Nat) => run_neq_slice_nil_any (P := Try.prog) W 22 9 (some a) n c 0 0 Try.underlying22
  have HH : Hid (Hosts (some x) n host w) := hH
  clear hH
  go_enter Try.func4, Try.ntmps4
  go_wp2_with fail
  refine (bytes15_t _ n c host _ HH.out).mono ?_
  rintro e w' ⟨⟨b, rfl⟩, rfl⟩
  cases b with
  | false =>
    go_wp2_with fail
    go_ret
    exact ⟨rfl, Below.refl _ _⟩
  | true =>
    go_wp2_with fail
    obtain ⟨B, hB⟩ : ∃ B, B = w'.heap.size := ⟨_, rfl⟩
    obtain ⟨wc, hwc⟩ : ∃ wc, wc = w'.alloc (.cells (strs host n).toArray 9) := ⟨_, rfl⟩
    have hcc : Hid (∀ i, i < n → wc.cell? ⟨B, i, none⟩ = some (.string (host i))) := by
      subst hB hwc; exact copy_cells host n w'
    have hbc : Hid (Below B w' wc) := by subst hB hwc; exact (Below.refl _ w').alloc (Nat.le_refl _) _
    have hsz : B < wc.heap.size := by subst hB hwc; simp
    rw [← hwc, ← hB]
    have HB : Hid (B = w'.heap.size) := hB
    clear hB hwc hcp hmk hnil HH
    go_loop [4, 5] (fun t i => ∃ (k : Nat) (T : Int), k ≤ n ∧ i = .int .i64 k ∧ t = .int .i64 T) (fun _ i => n - (intOf i).toNat)
    case atStart => exact ⟨0, _, Nat.zero_le _, rfl, rfl⟩
    case round =>
      obtain ⟨k, T, hk, rfl, rfl⟩ := hrel
      by_cases hlt : k < n
      · have hlt' : (k : Int) < (n : Int) := by omega
        have hck := hcc.out k hlt
        go_wp2_with fail
        · go_ret
          exact ⟨rfl, by rw [← HB.out]; exact hbc.out⟩
        · go_round
          case rel => exact ⟨k + 1, _, by omega, by go_num, rfl⟩
          case measure => simp [intOf]; omega
      · have hlt' : decide ((k : Int) < (n : Int)) = false := by simp; omega
        go_wp2_with fail
        refine (newHeap_t (some ⟨B, 0, none⟩) n n host hn wc (fun i hi => ⟨B, rfl, hsz, hcc.out i hi⟩)).mono ?_
        rintro e wq ⟨rfl, qb, hHeap, hbq⟩
        have HHp : Hid (HeapAt wc.heap.size n host qb wq) := hHeap
        have Hbq : Hid (Below wc.heap.size wc wq) := hbq
        clear hHeap hbq
        go_wp2_with fail
        refine (snapshot_t wc.heap.size n host qb wq (by omega) HHp.out).mono ?_
        rintro e ws ⟨v', rfl, hown', hbs⟩
        have Hst : Hid (0 < n → ∃ g o cap oc, v' = .slice (some ⟨o, 0, none⟩) n oc ∧ Drain wc.heap.size g o n n cap host qb ws) := fun h0 => drain_start h0 HHp.out hown' hbs
        have Hbs : Hid (Below wc.heap.size wc ws) := Hbq.out.trans (hbs.mono Hbq.out.size)
        clear hown' hbs
        go_wp2_with fail
        obtain ⟨h, hh⟩ : ∃ h, h = wc.heap.size := ⟨_, rfl⟩
        rw [← hh] at Hst Hbs ⊢
        have Hh : Hid (h = wc.heap.size) := hh
        clear hh
        go_loopw [9] (fun i wr => ∃ j : Nat, j ≤ n ∧ i = .int .i64 j ∧ Below h wc wr ∧ (0 < n → ∃ g o cap oc, v' = .slice (some ⟨o, 0, none⟩) n oc ∧ Drain h g o n (n - j) cap host qb wr)) (fun i _ => n - (intOf i).toNat)
        case atStart => exact ⟨0, Nat.zero_le _, rfl, Hbs.out, Hst.out⟩
        case round =>
          obtain ⟨j, hj, rfl, hb6, hD⟩ := hrel
          by_cases hlt2 : j < n
          · have hlt2' : (j : Int) < (n : Int) := by omega
            obtain ⟨g, o, cap, oc, rfl, D⟩ := hD (by omega)
            obtain ⟨r, hr⟩ : ∃ r, n - j = r + 1 := ⟨n - j - 1, by omega⟩
            rw [hr] at D
            have hat : (n : Int) - 1 - (j : Int) = (r : Int) := by omega
            have Hj : Hid (j + r + 1 = n) := by unfold Hid; omega
            have HD : Hid (Drain h g o n (r + 1) cap host qb wr) := D
            clear D hD hr
            go_wp2_with fail
            have hrn : r < n := by have := Hj.out; omega
            refine (zzpop_t h g r cap (qb r) (by have := HD.out.fits; omega) HD.out.fits.2.2 _ wr HD.out.c_head HD.out.f_head (HD.out.c_row (Nat.lt_succ_self r)) (HD.out.f_row r) (HD.out.c_heap hrn) (HD.out.f_heap hrn) HD.out.gh (HD.out.qh hrn) (HD.out.qg hrn)).mono ?_
            rintro e wp ⟨rfl, hwp⟩
            have D' : Hid (Drain h g o n r cap host qb wp) := by rw [← hwp]; exact HD.out.pop
            have hb7 : Hid (Below h wc wp) := by rw [← hwp]; exact below_popped hb6 (Nat.le_refl h) (Nat.le_of_lt HD.out.far.1) _ (Nat.le_of_lt (HD.out.far.2 r hrn)) r cap
            clear hwp HD hb6 Hst
            have s1 := D'.out.c_snap hrn
            have s2 := D'.out.c_heap hrn
            rw [if_neg (Nat.lt_irrefl r)] at s2
            have s3 := D'.out.c_index hrn
            have s4 := D'.out.c_host hrn
            have s5 : wp.cell? ⟨B, r, none⟩ = some (.string (host r)) := (hb7.out.cell (p := ⟨B, r, none⟩) (by rw [Hh.out]; exact hsz)).trans (hcc.out r hrn)
            have s6 := D'.out.c_head
            have hrn' : (r : Int) < (n : Int) := by omega
            have p1 := neq29_same
            have p2 := neq24_same
            have p3 := eql29_nil
            have p4 := neq24_nil
            go_wp2_with fail
            go_quiet (first | (go_at_call 10; refine Calls.quiet_of_same (qheap_t (qb r) none _ ?_); assumption) | (go_at_call 11; refine Calls.quiet_of_same (qindex_t (qb r) (r : Int) _ ?_); assumption) | (go_at_call 12; refine Calls.quiet_of_same (qhost_t (qb r) (host r) _ ?_); assumption))
            clear s1 s2 s3 s4 s5
            go_wp2_with fail
            refine (hlen_t h (some ⟨g, 0, none⟩) r cap _ (by exact s6)).mono ?_
            rintro e wl ⟨rfl, rfl⟩
            by_cases hr0 : r = 0
            · have hr0' : ¬ (0 : Int) < (r : Int) := by omega
              go_wp2_with fail
              go_roundw
              case rel =>
                refine ⟨j + 1, by omega, by go_num, below_drewN' hb7.out _, fun _ => ⟨g, o, cap, oc, rfl, ?_⟩⟩
                have e : n - (j + 1) = r := by have := Hj.out; omega
                rw [e]; exact D'.out.drewN _
              case measure => simp [intOf]; omega
            · have hr0' : (0 : Int) < (r : Int) := by omega
              obtain ⟨q, hq⟩ : ∃ q, r = q + 1 := ⟨r - 1, by omega⟩
              have hq1 : (r : Int) - 1 = (q : Int) := by omega
              have hqn : (q : Int) < (n : Int) := by omega
              have t1 := D'.out.c_row (i := q) (by omega)
              have t2 := D'.out.c_snap (i := q) (by omega)
              have t3 := D'.out.c_heap (i := q) (by omega)
              rw [if_pos (by omega)] at t3
              have Hq : Hid (r = q + 1) := hq
              clear hq
              go_wp2_with fail
              refine (hqueue_t h g r cap q _ (by have := Hq.out; omega) _ (by exact s6) (by exact t1)).mono ?_
              rintro e wl ⟨rfl, rfl⟩
              go_wp2_with fail
              refine (qheap_t (qb q) (some ⟨h, 0, none⟩) _ (by exact t3)).mono ?_
              rintro e wl ⟨rfl, rfl⟩
              go_wp2_with fail
              go_roundw
              case rel =>
                refine ⟨j + 1, by omega, by go_num, below_drewN' hb7.out _, fun _ => ⟨g, o, cap, oc, rfl, ?_⟩⟩
                have e : n - (j + 1) = r := by have := Hj.out; omega
                rw [e]; exact D'.out.drewN _
              case measure => simp [intOf]; omega
          · have hlt2' : decide ((j : Int) < (n : Int)) = false := by simp; omega
            have Hb6 : Hid (Below B w' wr) := hbc.out.trans (hb6.mono (by rw [Hh.out]; omega))
            clear hD hb6
            go_wp2_with fail
            go_ret
            exact ⟨rfl, by rw [← HB.out]; exact Hb6.out⟩

set_option maxRecDepth 100000 in
set_option maxHeartbeats 2000000 in
theorem drain_nil (w : World) :
    Calls Try.prog 4 #[.slice none 0 0] w fun e w' => e = .returned (.bool true) ∧ Below w.heap.size w w' := by
  have hnil := fun (W : World) (n c : Nat) => run_neq_slice_nil_any (P := Try.prog) W 22 9 none n c 0 0 Try.underlying22
  go_enter Try.func4, Try.ntmps4
  go_wp2_with fail
  refine (bytes15_t none 0 0 (fun _ => ByteArray.empty) _ (fun i hi => absurd hi (Nat.not_lt_zero _))).mono ?_
  rintro e w' ⟨⟨b, rfl⟩, rfl⟩
  cases b with
  | false =>
    go_wp2_with fail
    go_ret
    exact ⟨rfl, Below.refl _ _⟩
  | true =>
    go_wp2_with fail
    go_loop [4, 5] (fun _ i => i = .int .i64 0) (fun _ _ => 0)
    case atStart => rfl
    case round =>
      obtain rfl := hrel
      go_wp2_with fail
      refine (newHeap_t none 0 0 (fun _ => ByteArray.empty) (by omega) w' (fun i hi => absurd hi (Nat.not_lt_zero _))).mono ?_
      rintro e wq ⟨rfl, qb, hHeap, hbq⟩
      have HHp : Hid (HeapAt w'.heap.size 0 (fun _ => ByteArray.empty) qb wq) := hHeap
      have Hbq : Hid (Below w'.heap.size w' wq) := hbq
      clear hHeap hbq
      go_wp2_with fail
      refine (snapshot_t w'.heap.size 0 (fun _ => ByteArray.empty) qb wq (by omega) HHp.out).mono ?_
      rintro e ws ⟨v', rfl, hown', hbs⟩
      have Hbs : Hid (Below w'.heap.size w' ws) := Hbq.out.trans (hbs.mono Hbq.out.size)
      clear hown' hbs
      go_wp2_with fail
      go_loop [9] (fun i => i = .int .i64 0) (fun _ => 0)
      case atStart => rfl
      case round =>
        obtain rfl := hrel
        go_wp2_with fail
        go_ret
        exact ⟨rfl, Hbs.out⟩

/-- For every slice of hosts. -/
theorem drain_any (a : Option Addr) (n c : Nat) (host : Nat → ByteArray) (w : World) (hH : Hosts a n host w) (h0 : a = none → n = 0 ∧ c = 0) :
    Calls Try.prog 4 #[.slice a n c] w fun e w' => e = .returned (.bool true) ∧ Below w.heap.size w w' := by
  by_cases hn : n ≤ 32768
  · cases a with
    | none =>
      obtain ⟨rfl, rfl⟩ := h0 rfl
      exact drain_nil w
    | some x => exact drain_some x n c host hn w hH
  · have hn' : (32768 : Int) < (n : Int) := by omega
    have HH : Hid (Hosts a n host w) := hH
    clear hH h0
    go_enter Try.func4, Try.ntmps4
    go_wp2_with fail
    refine (bytes15_t _ n c host _ HH.out).mono ?_
    rintro e w' ⟨⟨b, rfl⟩, rfl⟩
    cases b with
    | false =>
      go_wp2_with fail
      go_ret
      exact ⟨rfl, Below.refl _ _⟩
    | true =>
      go_wp2_with fail
      go_ret
      exact ⟨rfl, Below.refl _ _⟩
end Go.Proofs.Qxb6615497a
