/-
  THE WALK of FnPopAfterSwapRemovesAt.
-/
import Derived.Test.Qxb6615497aCopy
import Derived.Test.Qxb6615497aSwap
import Derived.Deep.QuietTactic
import Derived.BigQuiet
namespace Go.Proofs.Qxb6615497a
open Go.RowKit

theorem below_drewN2 {B : Nat} {a w : World} (h : Below B a w) (n : Nat) : Below B a (w.drewN n) := ⟨h.os, h.tape, h.output, h.size, h.block⟩

set_option maxRecDepth 100000 in
set_option maxHeartbeats 4000000 in
theorem removes_some (x : Addr) (n c : Nat) (i : Int) (host : Nat → ByteArray) (hn : n ≤ 32768) (hi0 : 0 ≤ i) (hin : i < (n : Int)) (w : World) (hH : Hosts (some x) n host w) :
    Calls Try.prog 3 #[.slice (some x) n c, .int .i64 i] w fun e w' => e = .returned (.bool true) ∧ Below w.heap.size w w' := by
  obtain ⟨i, rfl⟩ := Int.eq_ofNat_of_zero_le hi0
  have hn' : ¬ (32768 : Int) < (n : Int) := by omega
  have hn0 : ((n : Int) == 0) = false := by simp; omega
  have hi1 : ¬ (i : Int) < 0 := by omega
  have hi2 : ¬ (i : Int) ≥ (n : Int) := by omega
  have hmk := make_run n hn
  have hcp := copy_run x n c host w hH
  have hnil := fun (W : World) (a : Addr) (n c : Nat) => run_neq_slice_nil_any (P := Try.prog) W 22 9 (some a) n c 0 0 Try.underlying22
  have HH : Hid (Hosts (some x) n host w) := hH
  clear hH
  go_enter Try.func3, Try.ntmps3
  go_wp2_with fail
  refine (bytes5_t _ n c (i : Int) host _ HH.out).mono ?_
  rintro e w' ⟨⟨b, rfl⟩, rfl⟩
  cases b with
  | false =>
    go_wp2_with fail
    go_ret
    exact ⟨rfl, Below.refl _ _⟩
  | true =>
    go_wp2_with fail
    obtain ⟨B, hB⟩ : ∃ B, B = w'.heap.size := ⟨_, rfl⟩
    obtain ⟨wc, hwc⟩ : ∃ wc, wc = w'.alloc (.cells (strs host n).toArray 9) := ⟨_, rfl⟩
    have hcc : Hid (∀ i, i < n → wc.cell? ⟨B, i, none⟩ = some (.string (host i))) := by
      subst hB hwc; exact copy_cells host n w'
    have hbc : Hid (Below B w' wc) := by subst hB hwc; exact (Below.refl _ w').alloc (Nat.le_refl _) _
    have hsz : B < wc.heap.size := by subst hB hwc; simp
    rw [← hwc, ← hB]
    have HB : Hid (B = w'.heap.size) := hB
    clear hB hwc hcp hmk hnil HH
    go_loop [6, 7] (fun t i => ∃ (k : Nat) (T : Int), k ≤ n ∧ i = .int .i64 k ∧ t = .int .i64 T) (fun _ i => n - (intOf i).toNat)
    case atStart => exact ⟨0, _, Nat.zero_le _, rfl, rfl⟩
    case round =>
      obtain ⟨k, T, hk, rfl, rfl⟩ := hrel
      by_cases hlt : k < n
      · have hlt' : (k : Int) < (n : Int) := by omega
        have hck := hcc.out k hlt
        go_wp2_with fail
        · go_ret
          exact ⟨rfl, by rw [← HB.out]; exact hbc.out⟩
        · go_round
          case rel => exact ⟨k + 1, _, by omega, by go_num, rfl⟩
          case measure => simp [intOf]; omega
      · have hlt' : decide ((k : Int) < (n : Int)) = false := by simp; omega
        go_wp2_with fail
        refine (newHeap_t (some ⟨B, 0, none⟩) n n host hn wc (fun i hi => ⟨B, rfl, hsz, hcc.out i hi⟩)).mono ?_
        rintro e wq ⟨rfl, qb, hHeap, hbq⟩
        have HHp : Hid (HeapAt wc.heap.size n host qb wq) := hHeap
        have Hbq : Hid (Below wc.heap.size wc wq) := hbq
        clear hHeap hbq
        go_wp2_with fail
        refine (snapshot_t wc.heap.size n host qb wq (by omega) HHp.out).mono ?_
        rintro e ws ⟨v', rfl, hown', hbs⟩
        obtain ⟨g, o, cap, oc, rfl, D⟩ := drain_start (by omega) HHp.out hown' hbs
        obtain ⟨DH, DS, Dgo⟩ := D.held
        have HD : Hid (Held wc.heap.size g n n cap host qb ws ∧ SnapAt o n qb ws ∧ g ≠ o) := ⟨DH, DS, Dgo⟩
        have Hbs : Hid (Below wc.heap.size wc ws) := Hbq.out.trans (hbs.mono Hbq.out.size)
        clear hown' hbs D DH DS Dgo
        obtain ⟨h, hh⟩ : ∃ h, h = wc.heap.size := ⟨_, rfl⟩
        rw [← hh] at HD Hbs ⊢
        have Hh : Hid (h = wc.heap.size) := hh
        clear hh HHp Hbq
        obtain ⟨l, hl⟩ : ∃ l, n = l + 1 := ⟨n - 1, by omega⟩
        have hl' : (n : Int) - 1 = (l : Int) := by omega
        have hln : l < n := by omega
        have Hl : Hid (n = l + 1) := hl
        clear hl
        go_wp2_with fail
        refine (swap_t h g n cap i l host qb (by omega) hln ws HD.out.1).mono ?_
        rintro e ww ⟨rfl, hww⟩
        have HD2 : Hid (Held h g n n cap (fun k => host (exch i l k)) (fun k => qb (exch i l k)) ww ∧ SnapAt o n qb ww) := by
          rw [← hww]; exact ⟨HD.out.1.swap (by omega) hln, HD.out.2.1.swap HD.out.1 HD.out.2.2 (by omega) hln⟩
        have Hgo : Hid (g ≠ o) := HD.out.2.2
        have Hbw : Hid (Below h wc ww) := by
          rw [← hww]; exact below_swapped Hbs.out (Nat.le_of_lt HD.out.1.far.1) (Nat.le_of_lt (HD.out.1.far.2 i (by omega))) (Nat.le_of_lt (HD.out.1.far.2 l hln)) i l
        clear hww HD Hbs
        go_wp2_with fail
        have D3 : Held h g n (l + 1) cap (fun k => host (exch i l k)) (fun k => qb (exch i l k)) ww := by
          have e : l + 1 = n := Hl.out.symm
          rw [e]; exact HD2.out.1
        have hex : exch i l l = i := by unfold exch; split <;> simp_all
        have hpop := zzpop_t h g l cap (qb (exch i l l)) (by have := D3.fits; omega) D3.fits.2.2 _ ww D3.c_head D3.f_head (D3.c_row (Nat.lt_succ_self l)) (D3.f_row l) (D3.c_heap hln) (D3.f_queue hln 4) D3.gh (D3.qh hln) (D3.qg hln)
        rw [hex] at hpop
        refine hpop.mono ?_
        clear hpop
        rintro e wp ⟨rfl, hwp⟩
        have D' : Hid (Held h g n l cap (fun k => host (exch i l k)) (fun k => qb (exch i l k)) wp ∧ SnapAt o n qb wp) := by
          have := D3.pop
          have h2 := HD2.out.2.pop D3 Hgo.out
          simp only [hex] at this h2
          rw [hwp] at this h2
          exact ⟨this, h2⟩
        have hb7 : Hid (Below h wc wp) := by
          rw [← hwp]
          refine below_popped Hbw.out (Nat.le_refl h) (Nat.le_of_lt D3.far.1) _ ?_ l cap
          have := D3.far.2 l hln
          simp only [hex] at this
          omega
        have s1 := D'.out.2.cell (i := i) (by omega)
        have s2 := D'.out.1.c_heap hln
        rw [if_neg (Nat.lt_irrefl l)] at s2
        have s3 := D'.out.1.c_index hln
        have s4 := D'.out.1.c_host hln
        simp only [hex] at s2 s3 s4
        have s5 : wp.cell? ⟨B, i, none⟩ = some (.string (host i)) := (hb7.out.cell (p := ⟨B, i, none⟩) (by rw [Hh.out]; exact hsz)).trans (hcc.out i (by omega))
        have s6 := D'.out.1.c_head
        clear hwp D3 HD2 Hbw hex
        have p1 := neq29_same
        have p2 := neq24_same
        have p3 := eql29_nil
        have p4 := neq24_nil
        go_wp2_with fail
        go_quiet (first | (go_at_call 10; refine Calls.quiet_of_same (qheap_t (qb i) none _ ?_); assumption) | (go_at_call 11; refine Calls.quiet_of_same (qindex_t (qb i) (l : Int) _ ?_); assumption) | (go_at_call 12; refine Calls.quiet_of_same (qhost_t (qb i) (host i) _ ?_); assumption))
        clear s1 s2 s3 s4 s5
        go_wp2_with fail
        refine (hlen_t h (some ⟨g, 0, none⟩) l cap _ (by exact s6)).mono ?_
        rintro e wl ⟨rfl, rfl⟩
        go_wp2_with fail
        generalize hwz : wp.drewN _ = wz
        have D4 : Hid (Held h g n l cap (fun k => host (exch i l k)) (fun k => qb (exch i l k)) wz ∧ SnapAt o n qb wz) := by
          rw [← hwz]; exact ⟨D'.out.1.drewN _, D'.out.2.drewN _⟩
        have hb8 : Hid (Below h wc wz) := by rw [← hwz]; exact below_drewN2 hb7.out _
        clear hwz D' hb7 s6
        have s6 := D4.out.1.c_head
        go_loop [12] (fun y => ∃ j : Nat, j ≤ l ∧ y = .int .i64 j) (fun y => l - (intOf y).toNat)
        case atStart => exact ⟨0, Nat.zero_le _, rfl⟩
        case round =>
          obtain ⟨j, hj, rfl⟩ := hrel
          by_cases hlt3 : j < l
          · have hlt3' : (j : Int) < (l : Int) := by omega
            have hjn : (j : Int) < (n : Int) := by omega
            have hln' : (l : Int) < (n : Int) := by omega
            have u1 := D4.out.2.cell (i := j) (by omega)
            have u2 := D4.out.2.cell (i := l) hln
            have u3 : wz.cell? ⟨B, j, none⟩ = some (.string (host j)) := (hb8.out.cell (p := ⟨B, j, none⟩) (by rw [Hh.out]; exact hsz)).trans (hcc.out j (by omega))
            have u4 : wz.cell? ⟨B, l, none⟩ = some (.string (host l)) := (hb8.out.cell (p := ⟨B, l, none⟩) (by rw [Hh.out]; exact hsz)).trans (hcc.out l hln)
            have r1 := D4.out.1.c_row hlt3
            have r3 := D4.out.1.c_index (i := j) (by omega)
            have r4 := D4.out.1.c_heap (i := j) (by omega)
            have r5 := D4.out.1.c_host (i := j) (by omega)
            rw [if_pos hlt3] at r4
            by_cases hji : j = i
            · have hex : exch i l j = l := by unfold exch; rw [if_pos hji]
              simp only [hex] at r1 r3 r4 r5
              have hji' : ((j : Int) == (i : Int)) = true := by simp; omega
              clear hex hji
              go_wp2_with fail
              refine (hqueue_t h g l cap j _ hlt3 wz s6 r1).mono ?_
              rintro e wl ⟨rfl, rfl⟩
              go_wp2_with fail
              refine (qindex_t (qb l) (j : Int) _ r3).mono ?_
              rintro e wl ⟨rfl, rfl⟩
              go_wp2_with fail
              refine (qheap_t (qb l) (some ⟨h, 0, none⟩) _ r4).mono ?_
              rintro e wl ⟨rfl, rfl⟩
              go_wp2_with fail
              refine (qhost_t (qb l) (host l) _ r5).mono ?_
              rintro e wl ⟨rfl, rfl⟩
              go_wp2_with fail
              go_round
              case rel => exact ⟨j + 1, by omega, by go_num⟩
              case measure => simp [intOf]; omega
            · have hex : exch i l j = j := by unfold exch; rw [if_neg hji, if_neg (by omega)]
              simp only [hex] at r1 r3 r4 r5
              have hji' : ((j : Int) == (i : Int)) = false := by simp; omega
              clear hex hji
              go_wp2_with fail
              refine (hqueue_t h g l cap j _ hlt3 wz s6 r1).mono ?_
              rintro e wl ⟨rfl, rfl⟩
              go_wp2_with fail
              refine (qindex_t (qb j) (j : Int) _ r3).mono ?_
              rintro e wl ⟨rfl, rfl⟩
              go_wp2_with fail
              refine (qheap_t (qb j) (some ⟨h, 0, none⟩) _ r4).mono ?_
              rintro e wl ⟨rfl, rfl⟩
              go_wp2_with fail
              refine (qhost_t (qb j) (host j) _ r5).mono ?_
              rintro e wl ⟨rfl, rfl⟩
              go_wp2_with fail
              go_round
              case rel => exact ⟨j + 1, by omega, by go_num⟩
              case measure => simp [intOf]; omega
          · have hlt3' : decide ((j : Int) < (l : Int)) = false := by simp; omega
            go_wp2_with fail
            go_ret
            exact ⟨rfl, by rw [← HB.out]; exact hbc.out.trans (hb8.out.mono (by rw [Hh.out]; omega))⟩

theorem make_run0 (w : World) : (Instr.makeSlice 22 (.int .i64 0) (.int .i64 0)).run Try.prog w = .ok (.slice (some ⟨w.heap.size, 0, none⟩) 0 0) (w.alloc (.cells #[] 9)) := by
  have h := make_run 0 (by omega) w
  have e : madeCells #[Value.string ByteArray.empty] 0 = #[] := by simp [madeCells]
  rw [e] at h
  exact h

theorem copy_run0 (d x : Addr) (c : Nat) (ty : TypeId) (w : World) : (Builtin.copy_ #[22, 22] ty #[.slice (some d) 0 0, .slice (some x) 0 c]).run Try.prog w = .ok (.int .i64 0) w := by
  have hinfo : (Try.prog.info? 9).map (·.size) = some 1 := by
    obtain ⟨i, hi, hz0, hz1, hz2⟩ := info_parts Try.info9
    rw [hi]; simp [hz1]
  exact run_copy_none (P := Try.prog) w 22 22 ty 9 (some d) (some x) 0 0 0 c Try.underlying22 hinfo (by simp)

set_option maxRecDepth 100000 in
set_option maxHeartbeats 1000000 in
theorem removes_none (x : Addr) (c : Nat) (i : Int) (w : World) :
    Calls Try.prog 3 #[.slice (some x) 0 c, .int .i64 i] w fun e w' => e = .returned (.bool true) ∧ Below w.heap.size w w' := by
  have hmk := make_run0
  have hcp := copy_run0
  have hnil := fun (W : World) (a : Addr) (n c : Nat) => run_neq_slice_nil_any (P := Try.prog) W 22 9 (some a) n c 0 0 Try.underlying22
  go_enter Try.func3, Try.ntmps3
  go_wp2_with fail
  refine (bytes5_t (some x) 0 c i (fun _ => ByteArray.empty) _ (fun i hi => absurd hi (Nat.not_lt_zero _))).mono ?_
  rintro e w' ⟨⟨b, rfl⟩, rfl⟩
  cases b with
  | false =>
    go_wp2_with fail
    go_ret
    exact ⟨rfl, Below.refl _ _⟩
  | true =>
    go_wp2_with fail
    clear hmk hcp hnil
    go_loop [6, 7] (fun _ i => i = .int .i64 0) (fun _ _ => 0)
    case atStart => rfl
    case round =>
      obtain rfl := hrel
      go_wp2_with fail
      go_ret
      exact ⟨rfl, (Below.refl _ _).alloc (Nat.le_refl _) _⟩

set_option maxRecDepth 100000 in
set_option maxHeartbeats 4000000 in
theorem removes_low (x : Addr) (n c : Nat) (i : Int) (host : Nat → ByteArray) (hn : n ≤ 32768) (hz : n ≠ 0) (hi : i < 0) (w : World) (hH : Hosts (some x) n host w) :
    Calls Try.prog 3 #[.slice (some x) n c, .int .i64 i] w fun e w' => e = .returned (.bool true) ∧ Below w.heap.size w w' := by
  have hn' : ¬ (32768 : Int) < (n : Int) := by omega
  have hn0 : ((n : Int) == 0) = false := by simp; omega
  have hmk := make_run n hn
  have hcp := copy_run x n c host w hH
  have hnil := fun (W : World) (a : Addr) (n c : Nat) => run_neq_slice_nil_any (P := Try.prog) W 22 9 (some a) n c 0 0 Try.underlying22
  have HH : Hid (Hosts (some x) n host w) := hH
  clear hH
  go_enter Try.func3, Try.ntmps3
  go_wp2_with fail
  refine (bytes5_t _ n c i host _ HH.out).mono ?_
  rintro e w' ⟨⟨b, rfl⟩, rfl⟩
  cases b with
  | false =>
    go_wp2_with fail
    go_ret
    exact ⟨rfl, Below.refl _ _⟩
  | true =>
    go_wp2_with fail
    obtain ⟨B, hB⟩ : ∃ B, B = w'.heap.size := ⟨_, rfl⟩
    obtain ⟨wc, hwc⟩ : ∃ wc, wc = w'.alloc (.cells (strs host n).toArray 9) := ⟨_, rfl⟩
    have hcc : Hid (∀ i, i < n → wc.cell? ⟨B, i, none⟩ = some (.string (host i))) := by
      subst hB hwc; exact copy_cells host n w'
    have hbc : Hid (Below B w' wc) := by subst hB hwc; exact (Below.refl _ w').alloc (Nat.le_refl _) _
    rw [← hwc, ← hB]
    have HB : Hid (B = w'.heap.size) := hB
    clear hB hwc hcp hmk hnil HH
    go_loop [6, 7] (fun t i => ∃ (k : Nat) (T : Int), k ≤ n ∧ i = .int .i64 k ∧ t = .int .i64 T) (fun _ i => n - (intOf i).toNat)
    case atStart => exact ⟨0, _, Nat.zero_le _, rfl, rfl⟩
    case round =>
      obtain ⟨k, T, hk, rfl, rfl⟩ := hrel
      by_cases hlt : k < n
      · have hlt' : (k : Int) < (n : Int) := by omega
        have hck := hcc.out k hlt
        go_wp2_with fail
        · go_ret
          exact ⟨rfl, by rw [← HB.out]; exact hbc.out⟩
        · go_round
          case rel => exact ⟨k + 1, _, by omega, by go_num, rfl⟩
          case measure => simp [intOf]; omega
      · have hlt' : decide ((k : Int) < (n : Int)) = false := by simp; omega
        go_wp2_with fail
        go_ret
        exact ⟨rfl, by rw [← HB.out]; exact hbc.out⟩

set_option maxRecDepth 100000 in
set_option maxHeartbeats 4000000 in
theorem removes_high (x : Addr) (n c : Nat) (i : Int) (host : Nat → ByteArray) (hn : n ≤ 32768) (hz : n ≠ 0) (hi0 : 0 ≤ i) (hi : (n : Int) ≤ i) (w : World) (hH : Hosts (some x) n host w) :
    Calls Try.prog 3 #[.slice (some x) n c, .int .i64 i] w fun e w' => e = .returned (.bool true) ∧ Below w.heap.size w w' := by
  have hn' : ¬ (32768 : Int) < (n : Int) := by omega
  have hn0 : ((n : Int) == 0) = false := by simp; omega
  have hi1 : ¬ i < 0 := by omega
  have hmk := make_run n hn
  have hcp := copy_run x n c host w hH
  have hnil := fun (W : World) (a : Addr) (n c : Nat) => run_neq_slice_nil_any (P := Try.prog) W 22 9 (some a) n c 0 0 Try.underlying22
  have HH : Hid (Hosts (some x) n host w) := hH
  clear hH
  go_enter Try.func3, Try.ntmps3
  go_wp2_with fail
  refine (bytes5_t _ n c i host _ HH.out).mono ?_
  rintro e w' ⟨⟨b, rfl⟩, rfl⟩
  cases b with
  | false =>
    go_wp2_with fail
    go_ret
    exact ⟨rfl, Below.refl _ _⟩
  | true =>
    go_wp2_with fail
    obtain ⟨B, hB⟩ : ∃ B, B = w'.heap.size := ⟨_, rfl⟩
    obtain ⟨wc, hwc⟩ : ∃ wc, wc = w'.alloc (.cells (strs host n).toArray 9) := ⟨_, rfl⟩
    have hcc : Hid (∀ i, i < n → wc.cell? ⟨B, i, none⟩ = some (.string (host i))) := by
      subst hB hwc; exact copy_cells host n w'
    have hbc : Hid (Below B w' wc) := by subst hB hwc; exact (Below.refl _ w').alloc (Nat.le_refl _) _
    rw [← hwc, ← hB]
    have HB : Hid (B = w'.heap.size) := hB
    clear hB hwc hcp hmk hnil HH
    go_loop [6, 7] (fun t i => ∃ (k : Nat) (T : Int), k ≤ n ∧ i = .int .i64 k ∧ t = .int .i64 T) (fun _ i => n - (intOf i).toNat)
    case atStart => exact ⟨0, _, Nat.zero_le _, rfl, rfl⟩
    case round =>
      obtain ⟨k, T, hk, rfl, rfl⟩ := hrel
      by_cases hlt : k < n
      · have hlt' : (k : Int) < (n : Int) := by omega
        have hck := hcc.out k hlt
        go_wp2_with fail
        · go_ret
          exact ⟨rfl, by rw [← HB.out]; exact hbc.out⟩
        · go_round
          case rel => exact ⟨k + 1, _, by omega, by go_num, rfl⟩
          case measure => simp [intOf]; omega
      · have hlt' : decide ((k : Int) < (n : Int)) = false := by simp; omega
        go_wp2_with fail
        go_ret
        exact ⟨rfl, by rw [← HB.out]; exact hbc.out⟩

set_option maxRecDepth 100000 in
set_option maxHeartbeats 4000000 in
theorem removes_nil (i : Int) (w : World) :
    Calls Try.prog 3 #[.slice none 0 0, .int .i64 i] w fun e w' => e = .returned (.bool true) ∧ Below w.heap.size w w' := by
  have hnil := fun (W : World) (n c : Nat) => run_neq_slice_nil_any (P := Try.prog) W 22 9 none n c 0 0 Try.underlying22
  go_enter Try.func3, Try.ntmps3
  go_wp2_with fail
  refine (bytes5_t none 0 0 i (fun _ => ByteArray.empty) _ (fun i hi => absurd hi (Nat.not_lt_zero _))).mono ?_
  rintro e w' ⟨⟨b, rfl⟩, rfl⟩
  cases b with
  | false =>
    go_wp2_with fail
    go_ret
    exact ⟨rfl, Below.refl _ _⟩
  | true =>
    go_wp2_with fail
    go_loop [6, 7] (fun _ i => i = .int .i64 0) (fun _ _ => 0)
    case atStart => rfl
    case round =>
      obtain rfl := hrel
      go_wp2_with fail
      go_ret
      exact ⟨rfl, Below.refl _ _⟩

/-- For every slice of hosts and every index. -/
theorem removes_any (a : Option Addr) (n c : Nat) (i : Int) (host : Nat → ByteArray) (w : World) (hH : Hosts a n host w) (h0 : a = none → n = 0 ∧ c = 0) :
    Calls Try.prog 3 #[.slice a n c, .int .i64 i] w fun e w' => e = .returned (.bool true) ∧ Below w.heap.size w w' := by
  by_cases hn : n ≤ 32768
  · cases a with
    | none =>
      obtain ⟨rfl, rfl⟩ := h0 rfl
      exact removes_nil i w
    | some x =>
      by_cases hz : n = 0
      · subst hz; exact removes_none x c i w
      by_cases hi : i < 0
      · exact removes_low x n c i host hn hz hi w hH
      by_cases hi2 : (n : Int) ≤ i
      · exact removes_high x n c i host hn hz (by omega) hi2 w hH
      · exact removes_some x n c i host hn (by omega) (by omega) w hH
  · have hn' : (32768 : Int) < (n : Int) := by omega
    have HH : Hid (Hosts a n host w) := hH
    clear hH h0
    go_enter Try.func3, Try.ntmps3
    go_wp2_with fail
    refine (bytes5_t _ n c i host _ HH.out).mono ?_
    rintro e w' ⟨⟨b, rfl⟩, rfl⟩
    cases b with
    | false =>
      go_wp2_with fail
      go_ret
      exact ⟨rfl, Below.refl _ _⟩
    | true =>
      go_wp2_with fail
      go_ret
      exact ⟨rfl, Below.refl _ _⟩
end Go.Proofs.Qxb6615497a
