/-
  THE HEAD of FnMiddleIgnoresAPowerOfTwoScale: a corner that is not moderate ends it with true.
-/
import Derived.Test.Qxb6614725aZz
namespace Go.Proofs.Qxb6614725a
open Go.RowKit
attribute [local go_sem] run_store_float

set_option maxRecDepth 100000 in
set_option maxHeartbeats 2000000 in
theorem far_t (C N : Value) (j : Int) (hj : j < -16 ∨ 16 < j) (w : World) (hC : ∃ A, C = .agg A) (hN : ∃ A, N = .agg A) :
    Calls Try.prog 5 #[C, N, .int .i64 j] w fun e w' => e = .returned (.bool true) ∧ Below w.heap.size w w' := by
  obtain ⟨C, rfl⟩ := hC
  obtain ⟨N, rfl⟩ := hN
  rcases hj with h | h
  · go_enter Try.func5, Try.ntmps5
    go_wp2_with fail
    refine bodyPost_ret (results_tmp Try.results5 _ _ _) rfl ⟨rfl, ?_⟩
    exact ((Below.refl _ _).alloc (Nat.le_refl _) _).alloc (by simp) _
  · have h' : ¬ j < -16 := by omega
    go_enter Try.func5, Try.ntmps5
    go_wp2_with fail
    refine bodyPost_ret (results_tmp Try.results5 _ _ _) rfl ⟨rfl, ?_⟩
    exact ((Below.refl _ _).alloc (Nat.le_refl _) _).alloc (by simp) _

theorem mod_t (x : Nat) (b : Bool) (h : Fl.moderate x = b) (w : World) : Calls Try.prog 14 #[.float .f64 x] w fun e w' => e = .returned (.bool b) ∧ w' = w := by
  rw [← h]
  exact zzModerate_t x w

set_option maxRecDepth 100000 in
set_option maxHeartbeats 4000000 in
theorem stray_t (c n : Nat → Nat) (j : Int) (hj1 : ¬ j < -16) (hj2 : ¬ 16 < j) (hs : ¬ ∀ i, i < 12 → Fl.moderate (c i) = true) (w : World) :
    Calls Try.prog 5 #[.agg (full c), .agg (full n), .int .i64 j] w fun e w' => e = .returned (.bool true) ∧ Below w.heap.size w w' := by
  have HS : Hid (¬ ∀ i, i < 12 → Fl.moderate (c i) = true) := hs
  clear hs
  obtain ⟨C, hC⟩ : ∃ C, C = full c := ⟨_, rfl⟩
  obtain ⟨N, hN⟩ : ∃ N, N = full n := ⟨_, rfl⟩
  rw [← hC, ← hN]
  have HC : Hid (C = full c) := hC
  have HN : Hid (N = full n) := hN
  clear hC hN
  go_enter Try.func5, Try.ntmps5
  go_wp2_with fail
  obtain ⟨B, hB⟩ : ∃ B, B = w.heap.size := ⟨_, rfl⟩
  obtain ⟨W, hW⟩ : ∃ W, W = (w.alloc (.cells C 32)).alloc (.cells N 32) := ⟨_, rfl⟩
  rw [← hW, ← hB]
  have hb : Hid (W.heap[B]? = some (.cells (full c) 32 (0, 0))) := by
    have e := HC.out
    subst hW hB e
    exact heap_alloc2_old w _ _
  have hbel : Hid (Below w.heap.size w W) := by
    subst hW hB
    exact ((Below.refl _ _).alloc (Nat.le_refl _) _).alloc (by simp) _
  have kc : Hid (∀ i, i < 12 → W.cell? ⟨B, i, none⟩ = some (.float .f64 (c i))) := by
    intro i hi
    rw [cell_of_row _ _ _ _ _ _ hb.out]
    exact full_get c i hi
  have HB : Hid (B = w.heap.size) := hB
  clear hB hW
  refine wp_loop_rounds 5 ?_
  rw [rounds_succ]
  have k0 := kc.out 0 (by decide)
  have k1 := kc.out 1 (by decide)
  have k2 := kc.out 2 (by decide)
  by_cases g0' : Fl.moderate (c 0) = true
  case neg =>
    have r0 : Hid (Fl.moderate (c 0) = false) := (by simpa using g0' : Fl.moderate (c 0) = false)
    clear g0'
    go_wp2_with (first | (go_at_call_of 14 (c 0); refine (mod_t (c 0) _ r0.out _).mono ?_; rintro e w' ⟨rfl, rfl⟩))
    exact bodyPost_ret (results_tmp Try.results5 _ _ _) rfl ⟨rfl, hbel.out⟩
  have g0 : Hid (Fl.moderate (c 0) = true) := g0'
  clear g0'
  by_cases g1' : Fl.moderate (c 1) = true
  case neg =>
    have r1 : Hid (Fl.moderate (c 1) = false) := (by simpa using g1' : Fl.moderate (c 1) = false)
    clear g1'
    go_wp2_with (first | (go_at_call_of 14 (c 0); refine (mod_t (c 0) _ g0.out _).mono ?_; rintro e w' ⟨rfl, rfl⟩) | (go_at_call_of 14 (c 1); refine (mod_t (c 1) _ r1.out _).mono ?_; rintro e w' ⟨rfl, rfl⟩))
    exact bodyPost_ret (results_tmp Try.results5 _ _ _) rfl ⟨rfl, hbel.out⟩
  have g1 : Hid (Fl.moderate (c 1) = true) := g1'
  clear g1'
  by_cases g2' : Fl.moderate (c 2) = true
  case neg =>
    have r2 : Hid (Fl.moderate (c 2) = false) := (by simpa using g2' : Fl.moderate (c 2) = false)
    clear g2'
    go_wp2_with (first | (go_at_call_of 14 (c 0); refine (mod_t (c 0) _ g0.out _).mono ?_; rintro e w' ⟨rfl, rfl⟩) | (go_at_call_of 14 (c 1); refine (mod_t (c 1) _ g1.out _).mono ?_; rintro e w' ⟨rfl, rfl⟩) | (go_at_call_of 14 (c 2); refine (mod_t (c 2) _ r2.out _).mono ?_; rintro e w' ⟨rfl, rfl⟩))
    exact bodyPost_ret (results_tmp Try.results5 _ _ _) rfl ⟨rfl, hbel.out⟩
  have g2 : Hid (Fl.moderate (c 2) = true) := g2'
  clear g2'
  go_wp2_with (first | (go_at_call_of 14 (c 0); refine (mod_t (c 0) _ g0.out _).mono ?_; rintro e w' ⟨rfl, rfl⟩) | (go_at_call_of 14 (c 1); refine (mod_t (c 1) _ g1.out _).mono ?_; rintro e w' ⟨rfl, rfl⟩) | (go_at_call_of 14 (c 2); refine (mod_t (c 2) _ g2.out _).mono ?_; rintro e w' ⟨rfl, rfl⟩))
  clear k0 k1 k2
  rw [rounds_succ]
  have k3 := kc.out 3 (by decide)
  have k4 := kc.out 4 (by decide)
  have k5 := kc.out 5 (by decide)
  by_cases g3' : Fl.moderate (c 3) = true
  case neg =>
    have r3 : Hid (Fl.moderate (c 3) = false) := (by simpa using g3' : Fl.moderate (c 3) = false)
    clear g3'
    go_wp2_with (first | (go_at_call_of 14 (c 3); refine (mod_t (c 3) _ r3.out _).mono ?_; rintro e w' ⟨rfl, rfl⟩))
    exact bodyPost_ret (results_tmp Try.results5 _ _ _) rfl ⟨rfl, hbel.out⟩
  have g3 : Hid (Fl.moderate (c 3) = true) := g3'
  clear g3'
  by_cases g4' : Fl.moderate (c 4) = true
  case neg =>
    have r4 : Hid (Fl.moderate (c 4) = false) := (by simpa using g4' : Fl.moderate (c 4) = false)
    clear g4'
    go_wp2_with (first | (go_at_call_of 14 (c 3); refine (mod_t (c 3) _ g3.out _).mono ?_; rintro e w' ⟨rfl, rfl⟩) | (go_at_call_of 14 (c 4); refine (mod_t (c 4) _ r4.out _).mono ?_; rintro e w' ⟨rfl, rfl⟩))
    exact bodyPost_ret (results_tmp Try.results5 _ _ _) rfl ⟨rfl, hbel.out⟩
  have g4 : Hid (Fl.moderate (c 4) = true) := g4'
  clear g4'
  by_cases g5' : Fl.moderate (c 5) = true
  case neg =>
    have r5 : Hid (Fl.moderate (c 5) = false) := (by simpa using g5' : Fl.moderate (c 5) = false)
    clear g5'
    go_wp2_with (first | (go_at_call_of 14 (c 3); refine (mod_t (c 3) _ g3.out _).mono ?_; rintro e w' ⟨rfl, rfl⟩) | (go_at_call_of 14 (c 4); refine (mod_t (c 4) _ g4.out _).mono ?_; rintro e w' ⟨rfl, rfl⟩) | (go_at_call_of 14 (c 5); refine (mod_t (c 5) _ r5.out _).mono ?_; rintro e w' ⟨rfl, rfl⟩))
    exact bodyPost_ret (results_tmp Try.results5 _ _ _) rfl ⟨rfl, hbel.out⟩
  have g5 : Hid (Fl.moderate (c 5) = true) := g5'
  clear g5'
  go_wp2_with (first | (go_at_call_of 14 (c 3); refine (mod_t (c 3) _ g3.out _).mono ?_; rintro e w' ⟨rfl, rfl⟩) | (go_at_call_of 14 (c 4); refine (mod_t (c 4) _ g4.out _).mono ?_; rintro e w' ⟨rfl, rfl⟩) | (go_at_call_of 14 (c 5); refine (mod_t (c 5) _ g5.out _).mono ?_; rintro e w' ⟨rfl, rfl⟩))
  clear k3 k4 k5
  rw [rounds_succ]
  have k6 := kc.out 6 (by decide)
  have k7 := kc.out 7 (by decide)
  have k8 := kc.out 8 (by decide)
  by_cases g6' : Fl.moderate (c 6) = true
  case neg =>
    have r6 : Hid (Fl.moderate (c 6) = false) := (by simpa using g6' : Fl.moderate (c 6) = false)
    clear g6'
    go_wp2_with (first | (go_at_call_of 14 (c 6); refine (mod_t (c 6) _ r6.out _).mono ?_; rintro e w' ⟨rfl, rfl⟩))
    exact bodyPost_ret (results_tmp Try.results5 _ _ _) rfl ⟨rfl, hbel.out⟩
  have g6 : Hid (Fl.moderate (c 6) = true) := g6'
  clear g6'
  by_cases g7' : Fl.moderate (c 7) = true
  case neg =>
    have r7 : Hid (Fl.moderate (c 7) = false) := (by simpa using g7' : Fl.moderate (c 7) = false)
    clear g7'
    go_wp2_with (first | (go_at_call_of 14 (c 6); refine (mod_t (c 6) _ g6.out _).mono ?_; rintro e w' ⟨rfl, rfl⟩) | (go_at_call_of 14 (c 7); refine (mod_t (c 7) _ r7.out _).mono ?_; rintro e w' ⟨rfl, rfl⟩))
    exact bodyPost_ret (results_tmp Try.results5 _ _ _) rfl ⟨rfl, hbel.out⟩
  have g7 : Hid (Fl.moderate (c 7) = true) := g7'
  clear g7'
  by_cases g8' : Fl.moderate (c 8) = true
  case neg =>
    have r8 : Hid (Fl.moderate (c 8) = false) := (by simpa using g8' : Fl.moderate (c 8) = false)
    clear g8'
    go_wp2_with (first | (go_at_call_of 14 (c 6); refine (mod_t (c 6) _ g6.out _).mono ?_; rintro e w' ⟨rfl, rfl⟩) | (go_at_call_of 14 (c 7); refine (mod_t (c 7) _ g7.out _).mono ?_; rintro e w' ⟨rfl, rfl⟩) | (go_at_call_of 14 (c 8); refine (mod_t (c 8) _ r8.out _).mono ?_; rintro e w' ⟨rfl, rfl⟩))
    exact bodyPost_ret (results_tmp Try.results5 _ _ _) rfl ⟨rfl, hbel.out⟩
  have g8 : Hid (Fl.moderate (c 8) = true) := g8'
  clear g8'
  go_wp2_with (first | (go_at_call_of 14 (c 6); refine (mod_t (c 6) _ g6.out _).mono ?_; rintro e w' ⟨rfl, rfl⟩) | (go_at_call_of 14 (c 7); refine (mod_t (c 7) _ g7.out _).mono ?_; rintro e w' ⟨rfl, rfl⟩) | (go_at_call_of 14 (c 8); refine (mod_t (c 8) _ g8.out _).mono ?_; rintro e w' ⟨rfl, rfl⟩))
  clear k6 k7 k8
  rw [rounds_succ]
  have k9 := kc.out 9 (by decide)
  have k10 := kc.out 10 (by decide)
  have k11 := kc.out 11 (by decide)
  by_cases g9' : Fl.moderate (c 9) = true
  case neg =>
    have r9 : Hid (Fl.moderate (c 9) = false) := (by simpa using g9' : Fl.moderate (c 9) = false)
    clear g9'
    go_wp2_with (first | (go_at_call_of 14 (c 9); refine (mod_t (c 9) _ r9.out _).mono ?_; rintro e w' ⟨rfl, rfl⟩))
    exact bodyPost_ret (results_tmp Try.results5 _ _ _) rfl ⟨rfl, hbel.out⟩
  have g9 : Hid (Fl.moderate (c 9) = true) := g9'
  clear g9'
  by_cases g10' : Fl.moderate (c 10) = true
  case neg =>
    have r10 : Hid (Fl.moderate (c 10) = false) := (by simpa using g10' : Fl.moderate (c 10) = false)
    clear g10'
    go_wp2_with (first | (go_at_call_of 14 (c 9); refine (mod_t (c 9) _ g9.out _).mono ?_; rintro e w' ⟨rfl, rfl⟩) | (go_at_call_of 14 (c 10); refine (mod_t (c 10) _ r10.out _).mono ?_; rintro e w' ⟨rfl, rfl⟩))
    exact bodyPost_ret (results_tmp Try.results5 _ _ _) rfl ⟨rfl, hbel.out⟩
  have g10 : Hid (Fl.moderate (c 10) = true) := g10'
  clear g10'
  by_cases g11' : Fl.moderate (c 11) = true
  case neg =>
    have r11 : Hid (Fl.moderate (c 11) = false) := (by simpa using g11' : Fl.moderate (c 11) = false)
    clear g11'
    go_wp2_with (first | (go_at_call_of 14 (c 9); refine (mod_t (c 9) _ g9.out _).mono ?_; rintro e w' ⟨rfl, rfl⟩) | (go_at_call_of 14 (c 10); refine (mod_t (c 10) _ g10.out _).mono ?_; rintro e w' ⟨rfl, rfl⟩) | (go_at_call_of 14 (c 11); refine (mod_t (c 11) _ r11.out _).mono ?_; rintro e w' ⟨rfl, rfl⟩))
    exact bodyPost_ret (results_tmp Try.results5 _ _ _) rfl ⟨rfl, hbel.out⟩
  have g11 : Hid (Fl.moderate (c 11) = true) := g11'
  clear g11'
  exfalso
  apply HS.out
  intro i hi
  match i, hi with
  | 0, _ => exact g0.out
  | 1, _ => exact g1.out
  | 2, _ => exact g2.out
  | 3, _ => exact g3.out
  | 4, _ => exact g4.out
  | 5, _ => exact g5.out
  | 6, _ => exact g6.out
  | 7, _ => exact g7.out
  | 8, _ => exact g8.out
  | 9, _ => exact g9.out
  | 10, _ => exact g10.out
  | 11, _ => exact g11.out
end Go.Proofs.Qxb6614725a
