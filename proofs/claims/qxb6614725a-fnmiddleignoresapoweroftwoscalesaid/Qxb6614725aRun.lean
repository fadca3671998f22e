/-
  THE WALK of FnMiddleIgnoresAPowerOfTwoScale where every corner is moderate.
-/
import Derived.Test.Qxb6614725aHead
import Derived.Test.Qxb6614725aSame
import Derived.LoopTactic
import Derived.Deep.RegionHeld3
namespace Go.Proofs.Qxb6614725a
open Go.RowKit
attribute [local go_sem] run_store_float

/-- what the end is known to do -/
def TailOk (c n d : Nat → Nat) (w0 : World) : Prop := ∀ (W : World) (B : Nat), ZT B c n d 4 W → Below w0.heap.size w0 W →
  ∀ u0 u1 u2 u5 u6 u7 u8 u9 u10 u12 u13 u14 u15 u16 u17 u18 u19 u20 u21 u22 u23 u24 u25 u26 u27 u28 u29 u30 u31 u32 u33 u34 u35 u36 u37 u38 u39 u40 u41 u42 u43 u44 u45 u46 u47 u48 u49 u50 u51 u52 u53 u54 u55 u56 u57 u58 u59 u60 u61 u62 u63 u64 u65 u66 u67 u68 u69 u70 u71 u72 u73 u74 u75 u76 u77 u78 u79 u80 u81 u82 u83 u84 u85 u86 u87 u88 u89 u90 u91 u92 u93 u94 u95 u96 u97 u98 u99 u100 u101 u102 u103 u104 u105 u106 u107 u108 u109 u110 u111 u112 u113 u114 u115 u116 u117 u118 u119 u120 u121 u122 u123 u124 u125 u126 u127 u128 u129 u130 u131 u132 u133 u134 u135 u136 u137 u138 u139 u140 u141 u142 u143 u144 u145 u146 u147 u148 u149 u150 u151 u152 u153 u154 u155 u156 u157 u158 u159 u160 u161 u162 u163 u164 u165 u166 u167 u168 u169 u170 u171 u172 u173 u174 u175 u176 u177 u178 u179 u180 u181 u182 u183 u184 u185 u186 u187 u188 u189 u190 u191 u192 u193 u194 u195 u196 u197 u198 u199 u200 u201 u202 u203 : Value, Code.wp Try.prog tail1 (bodyPost Try.prog Try.f5 fun e w' => e = .returned (.bool true) ∧ Below w0.heap.size w0 w') ⟨#[u0, u1, u2, .pointer (some ⟨B, 0, none⟩), .pointer (some ⟨B + 1, 0, none⟩), u5, u6, u7, u8, u9, u10, .pointer (some ⟨B + 1 + 1, 0, none⟩), u12, u13, u14, u15, u16, u17, u18, u19, u20, u21, u22, u23, u24, u25, u26, u27, u28, u29, u30, u31, u32, u33, u34, u35, u36, u37, u38, u39, u40, u41, u42, u43, u44, u45, u46, u47, u48, u49, u50, u51, u52, u53, u54, u55, u56, u57, u58, u59, u60, u61, u62, u63, u64, u65, u66, u67, u68, u69, u70, u71, u72, u73, u74, u75, u76, u77, u78, u79, u80, u81, u82, u83, u84, u85, u86, u87, u88, u89, u90, u91, u92, u93, u94, u95, u96, u97, u98, u99, u100, u101, u102, u103, u104, u105, u106, u107, u108, u109, u110, u111, u112, u113, u114, u115, u116, u117, u118, u119, u120, u121, u122, u123, u124, u125, u126, u127, u128, u129, u130, u131, u132, u133, u134, u135, u136, u137, u138, u139, u140, u141, u142, u143, u144, u145, u146, u147, u148, u149, u150, u151, u152, u153, u154, u155, u156, u157, u158, u159, u160, u161, u162, u163, u164, u165, u166, u167, u168, u169, u170, u171, u172, u173, u174, u175, u176, u177, u178, u179, u180, u181, u182, u183, u184, u185, u186, u187, u188, u189, u190, u191, u192, u193, u194, u195, u196, u197, u198, u199, u200, u201, u202, u203], []⟩ W

set_option maxRecDepth 100000 in
set_option maxHeartbeats 4000000 in
theorem run_t (c n d : Nat → Nat) (j : Int) (hj1 : ¬ j < -16) (hj2 : ¬ 16 < j) (hm : ∀ i, i < 12 → Fl.moderate (c i) = true) (hd : ∀ i, i < 12 → Ieee.double.mul (c i) (Fl.pw (16 + j).toNat) = some (d i)) (w : World) (hT : TailOk c n d w) :
    Calls Try.prog 5 #[.agg (full c), .agg (full n), .int .i64 j] w fun e w' => e = .returned (.bool true) ∧ Below w.heap.size w w' := by
  have HM : Hid (∀ i, i < 12 → Fl.moderate (c i) = true) := hm
  have HD : Hid (∀ i, i < 12 → Ieee.double.mul (c i) (Fl.pw (16 + j).toNat) = some (d i)) := hd
  have HT : Hid (TailOk c n d w) := hT
  clear hm hd hT
  obtain ⟨C, hC⟩ : ∃ C, C = full c := ⟨_, rfl⟩
  obtain ⟨N, hN⟩ : ∃ N, N = full n := ⟨_, rfl⟩
  rw [← hC, ← hN]
  have HC : Hid (C = full c) := hC
  have HN : Hid (N = full n) := hN
  clear hC hN
  go_enter Try.func5, Try.ntmps5
  go_wp2_with fail
  obtain ⟨B, hB⟩ : ∃ B, B = w.heap.size := ⟨_, rfl⟩
  obtain ⟨W, hW⟩ : ∃ W, W = (w.alloc (.cells C 32)).alloc (.cells N 32) := ⟨_, rfl⟩
  rw [← hW, ← hB]
  have hb : Hid (W.heap[B]? = some (.cells (full c) 32 (0, 0))) := by
    have e := HC.out
    subst hW hB e
    exact heap_alloc2_old w _ _
  have hb2 : Hid (W.heap[B + 1]? = some (.cells (full n) 32 (0, 0))) := by
    have e := HN.out
    subst hW hB e
    exact heap_alloc2_new w _ _
  have hbel : Hid (Below B w W) := by
    subst hW hB
    exact ((Below.refl _ _).alloc (Nat.le_refl _) _).alloc (by simp) _
  have hsz : Hid (W.heap.size = B + 1 + 1) := by
    subst hW hB
    unfold Hid
    simp
  have kc : Hid (∀ i, i < 12 → W.cell? ⟨B, i, none⟩ = some (.float .f64 (c i))) := by
    intro i hi
    rw [cell_of_row _ _ _ _ _ _ hb.out]
    exact full_get c i hi
  have HB : Hid (B = w.heap.size) := hB
  clear hB hW
  refine wp_loop_rounds 5 ?_
  rw [rounds_succ]
  have k0 := kc.out 0 (by decide)
  have k1 := kc.out 1 (by decide)
  have k2 := kc.out 2 (by decide)
  go_wp2_with (first | (go_at_call_of 14 (c 0); refine (mod_t (c 0) _ (HM.out 0 (by decide)) _).mono ?_; rintro e w' ⟨rfl, hw'⟩; obtain rfl := hw'.symm) | (go_at_call_of 14 (c 1); refine (mod_t (c 1) _ (HM.out 1 (by decide)) _).mono ?_; rintro e w' ⟨rfl, hw'⟩; obtain rfl := hw'.symm) | (go_at_call_of 14 (c 2); refine (mod_t (c 2) _ (HM.out 2 (by decide)) _).mono ?_; rintro e w' ⟨rfl, hw'⟩; obtain rfl := hw'.symm))
  clear k0 k1 k2
  rw [rounds_succ]
  have k3 := kc.out 3 (by decide)
  have k4 := kc.out 4 (by decide)
  have k5 := kc.out 5 (by decide)
  go_wp2_with (first | (go_at_call_of 14 (c 3); refine (mod_t (c 3) _ (HM.out 3 (by decide)) _).mono ?_; rintro e w' ⟨rfl, hw'⟩; obtain rfl := hw'.symm) | (go_at_call_of 14 (c 4); refine (mod_t (c 4) _ (HM.out 4 (by decide)) _).mono ?_; rintro e w' ⟨rfl, hw'⟩; obtain rfl := hw'.symm) | (go_at_call_of 14 (c 5); refine (mod_t (c 5) _ (HM.out 5 (by decide)) _).mono ?_; rintro e w' ⟨rfl, hw'⟩; obtain rfl := hw'.symm))
  clear k3 k4 k5
  rw [rounds_succ]
  have k6 := kc.out 6 (by decide)
  have k7 := kc.out 7 (by decide)
  have k8 := kc.out 8 (by decide)
  go_wp2_with (first | (go_at_call_of 14 (c 6); refine (mod_t (c 6) _ (HM.out 6 (by decide)) _).mono ?_; rintro e w' ⟨rfl, hw'⟩; obtain rfl := hw'.symm) | (go_at_call_of 14 (c 7); refine (mod_t (c 7) _ (HM.out 7 (by decide)) _).mono ?_; rintro e w' ⟨rfl, hw'⟩; obtain rfl := hw'.symm) | (go_at_call_of 14 (c 8); refine (mod_t (c 8) _ (HM.out 8 (by decide)) _).mono ?_; rintro e w' ⟨rfl, hw'⟩; obtain rfl := hw'.symm))
  clear k6 k7 k8
  rw [rounds_succ]
  have k9 := kc.out 9 (by decide)
  have k10 := kc.out 10 (by decide)
  have k11 := kc.out 11 (by decide)
  go_wp2_with (first | (go_at_call_of 14 (c 9); refine (mod_t (c 9) _ (HM.out 9 (by decide)) _).mono ?_; rintro e w' ⟨rfl, hw'⟩; obtain rfl := hw'.symm) | (go_at_call_of 14 (c 10); refine (mod_t (c 10) _ (HM.out 10 (by decide)) _).mono ?_; rintro e w' ⟨rfl, hw'⟩; obtain rfl := hw'.symm) | (go_at_call_of 14 (c 11); refine (mod_t (c 11) _ (HM.out 11 (by decide)) _).mono ?_; rintro e w' ⟨rfl, hw'⟩; obtain rfl := hw'.symm))
  clear k9 k10 k11
  rw [rounds_succ]
  go_wp2_with fail
  go_loop [8, 9] (fun f i => ∃ k : Nat, (k : Int) ≤ 16 ∧ (k = 0 ∨ (k : Int) ≤ j) ∧ i = .int .i64 k ∧ f = .float .f64 (Fl.pw (16 + k))) (fun _ i => 17 - (intOf i).toNat)
  case atStart => exact ⟨0, by decide, .inl rfl, rfl, by rw [Nat.add_zero, Fl.pw_one]⟩
  obtain ⟨k, hk, hk2, rfl, rfl⟩ := hrel
  by_cases hlt : (k : Int) < j
  case pos =>
    have r1 := run_mul (Fl.pw_up (16 + k) (by omega))
    go_wp2_with fail
    exact ⟨⟨k + 1, by omega, by omega, by simp, by rw [Nat.add_assoc]⟩, by simp [intOf]; omega⟩
  have hend : Hid (((16 + k : Nat) : Int) = 16 + j - min j 0) := by unfold Hid; omega
  go_wp2_with fail
  clear hlt hk hk2
  go_loop [8, 10] (fun f i => ∃ (e : Nat) (z : Int), (e : Int) = 16 + j - min z 0 ∧ j ≤ z ∧ (z ≤ 0 ∨ z = j) ∧ i = .int .i64 z ∧ f = .float .f64 (Fl.pw e)) (fun _ i => (- intOf i).toNat)
  case atStart => exact ⟨16 + k, j, hend.out, Int.le_refl _, .inr rfl, rfl, rfl⟩
  obtain ⟨e, z, he, hz1, hz2, rfl, rfl⟩ := hrel
  by_cases hlt : z < 0
  case pos =>
    obtain ⟨e', rfl⟩ : ∃ e', e = e' + 1 := ⟨e - 1, by omega⟩
    have r1 := run_quo (Fl.pw_down e' (by omega))
    go_wp2_with fail
    exact ⟨⟨e', z + 1, by omega, by omega, by omega, rfl, rfl⟩, by simp [intOf]; omega⟩
  have hE : Hid (e = (16 + j).toNat) := by unfold Hid; omega
  clear he hz1 hz2 hend
  go_wp2_with fail
  rename (∀ (a : Act) (w : World), Code.wp Try.prog _ _ a w → _) => hk
  have HK : Hid _ := hk
  clear hk
  rw [hsz.out]
  change Code.wp _ _ _ _ (W.alloc (.cells (part d 0) 32))
  obtain ⟨W0, hW0⟩ : ∃ W0, W0 = W.alloc (.cells (part d 0) 32) := ⟨_, rfl⟩
  rw [← hW0]
  have hz0 : Hid (ZT B c n d 0 W0) := by subst hW0; exact zt_start hb.out hb2.out hsz.out
  have hb0 : Hid (Below B w W0) := by subst hW0; exact hbel.out.alloc (by rw [hsz.out]; omega) _
  have HD' : Hid (∀ i, i < 12 → Ieee.double.mul (c i) (Fl.pw e) = some (d i)) := by rw [hE.out]; exact HD.out
  clear hW0 hbel hsz kc hb hb2 HD hE hlt
  refine wp_loop_rounds 5 ?_
  rw [rounds_succ]
  have m0 := run_mul (HD'.out 0 (by decide))
  have m1 := run_mul (HD'.out 1 (by decide))
  have m2 := run_mul (HD'.out 2 (by decide))
  go_wp2_with fail
  have s0 := zt_s hz0.out 0 (by decide) (by decide)
  have s1 := zt_s hz0.out 1 (by decide) (by decide)
  have s2 := zt_s hz0.out 2 (by decide) (by decide)
  have f0 := zt_f hz0.out 0
  have f1 := zt_f hz0.out 1
  have f2 := zt_f hz0.out 2
  go_region_held3 (fun w' => w'.cell? ⟨B, 0, none⟩ = some (.float .f64 (c 0)) ∧ w'.cell? ⟨B, 1, none⟩ = some (.float .f64 (c 1)) ∧ w'.cell? ⟨B, 2, none⟩ = some (.float .f64 (c 2)))
    (first | exact ⟨zt_c hz0.out 0 (by decide), zt_c hz0.out 1 (by decide), zt_c hz0.out 2 (by decide)⟩ | exact ⟨keep3 (zt_c hz0.out 0 (by decide)) _ _ _ _ _ _, keep3 (zt_c hz0.out 1 (by decide)) _ _ _ _ _ _, keep3 (zt_c hz0.out 2 (by decide)) _ _ _ _ _ _⟩)
    (fail)
  go_wp2_with fail
  obtain ⟨W1, hW1⟩ : ∃ V, V = (((W0.setCell ⟨B + 1 + 1, 0, none⟩ (.float .f64 (d 0))).setCell ⟨B + 1 + 1, 1, none⟩ (.float .f64 (d 1))).setCell ⟨B + 1 + 1, 2, none⟩ (.float .f64 (d 2))).drew := ⟨_, rfl⟩
  have hz1 : Hid (ZT B c n d 1 W1) := by subst hW1; exact zt_step (by decide) hz0.out rfl
  have hb1 : Hid (Below B w W1) := by subst hW1; exact zt_below hb0.out _ _ _ _ _ _
  rw [← hW1]
  clear hW1 hz0 hb0 m0 m1 m2 s0 s1 s2 f0 f1 f2
  rw [rounds_succ]
  have m0 := run_mul (HD'.out 3 (by decide))
  have m1 := run_mul (HD'.out 4 (by decide))
  have m2 := run_mul (HD'.out 5 (by decide))
  go_wp2_with fail
  have s0 := zt_s hz1.out 3 (by decide) (by decide)
  have s1 := zt_s hz1.out 4 (by decide) (by decide)
  have s2 := zt_s hz1.out 5 (by decide) (by decide)
  have f0 := zt_f hz1.out 3
  have f1 := zt_f hz1.out 4
  have f2 := zt_f hz1.out 5
  go_region_held3 (fun w' => w'.cell? ⟨B, 3, none⟩ = some (.float .f64 (c 3)) ∧ w'.cell? ⟨B, 4, none⟩ = some (.float .f64 (c 4)) ∧ w'.cell? ⟨B, 5, none⟩ = some (.float .f64 (c 5)))
    (first | exact ⟨zt_c hz1.out 3 (by decide), zt_c hz1.out 4 (by decide), zt_c hz1.out 5 (by decide)⟩ | exact ⟨keep3 (zt_c hz1.out 3 (by decide)) _ _ _ _ _ _, keep3 (zt_c hz1.out 4 (by decide)) _ _ _ _ _ _, keep3 (zt_c hz1.out 5 (by decide)) _ _ _ _ _ _⟩)
    (fail)
  go_wp2_with fail
  obtain ⟨W2, hW2⟩ : ∃ V, V = (((W1.setCell ⟨B + 1 + 1, 3, none⟩ (.float .f64 (d 3))).setCell ⟨B + 1 + 1, 4, none⟩ (.float .f64 (d 4))).setCell ⟨B + 1 + 1, 5, none⟩ (.float .f64 (d 5))).drew := ⟨_, rfl⟩
  have hz2 : Hid (ZT B c n d 2 W2) := by subst hW2; exact zt_step (by decide) hz1.out rfl
  have hb2 : Hid (Below B w W2) := by subst hW2; exact zt_below hb1.out _ _ _ _ _ _
  rw [← hW2]
  clear hW2 hz1 hb1 m0 m1 m2 s0 s1 s2 f0 f1 f2
  rw [rounds_succ]
  have m0 := run_mul (HD'.out 6 (by decide))
  have m1 := run_mul (HD'.out 7 (by decide))
  have m2 := run_mul (HD'.out 8 (by decide))
  go_wp2_with fail
  have s0 := zt_s hz2.out 6 (by decide) (by decide)
  have s1 := zt_s hz2.out 7 (by decide) (by decide)
  have s2 := zt_s hz2.out 8 (by decide) (by decide)
  have f0 := zt_f hz2.out 6
  have f1 := zt_f hz2.out 7
  have f2 := zt_f hz2.out 8
  go_region_held3 (fun w' => w'.cell? ⟨B, 6, none⟩ = some (.float .f64 (c 6)) ∧ w'.cell? ⟨B, 7, none⟩ = some (.float .f64 (c 7)) ∧ w'.cell? ⟨B, 8, none⟩ = some (.float .f64 (c 8)))
    (first | exact ⟨zt_c hz2.out 6 (by decide), zt_c hz2.out 7 (by decide), zt_c hz2.out 8 (by decide)⟩ | exact ⟨keep3 (zt_c hz2.out 6 (by decide)) _ _ _ _ _ _, keep3 (zt_c hz2.out 7 (by decide)) _ _ _ _ _ _, keep3 (zt_c hz2.out 8 (by decide)) _ _ _ _ _ _⟩)
    (fail)
  go_wp2_with fail
  obtain ⟨W3, hW3⟩ : ∃ V, V = (((W2.setCell ⟨B + 1 + 1, 6, none⟩ (.float .f64 (d 6))).setCell ⟨B + 1 + 1, 7, none⟩ (.float .f64 (d 7))).setCell ⟨B + 1 + 1, 8, none⟩ (.float .f64 (d 8))).drew := ⟨_, rfl⟩
  have hz3 : Hid (ZT B c n d 3 W3) := by subst hW3; exact zt_step (by decide) hz2.out rfl
  have hb3 : Hid (Below B w W3) := by subst hW3; exact zt_below hb2.out _ _ _ _ _ _
  rw [← hW3]
  clear hW3 hz2 hb2 m0 m1 m2 s0 s1 s2 f0 f1 f2
  rw [rounds_succ]
  have m0 := run_mul (HD'.out 9 (by decide))
  have m1 := run_mul (HD'.out 10 (by decide))
  have m2 := run_mul (HD'.out 11 (by decide))
  go_wp2_with fail
  have s0 := zt_s hz3.out 9 (by decide) (by decide)
  have s1 := zt_s hz3.out 10 (by decide) (by decide)
  have s2 := zt_s hz3.out 11 (by decide) (by decide)
  have f0 := zt_f hz3.out 9
  have f1 := zt_f hz3.out 10
  have f2 := zt_f hz3.out 11
  go_region_held3 (fun w' => w'.cell? ⟨B, 9, none⟩ = some (.float .f64 (c 9)) ∧ w'.cell? ⟨B, 10, none⟩ = some (.float .f64 (c 10)) ∧ w'.cell? ⟨B, 11, none⟩ = some (.float .f64 (c 11)))
    (first | exact ⟨zt_c hz3.out 9 (by decide), zt_c hz3.out 10 (by decide), zt_c hz3.out 11 (by decide)⟩ | exact ⟨keep3 (zt_c hz3.out 9 (by decide)) _ _ _ _ _ _, keep3 (zt_c hz3.out 10 (by decide)) _ _ _ _ _ _, keep3 (zt_c hz3.out 11 (by decide)) _ _ _ _ _ _⟩)
    (fail)
  go_wp2_with fail
  obtain ⟨W4, hW4⟩ : ∃ V, V = (((W3.setCell ⟨B + 1 + 1, 9, none⟩ (.float .f64 (d 9))).setCell ⟨B + 1 + 1, 10, none⟩ (.float .f64 (d 10))).setCell ⟨B + 1 + 1, 11, none⟩ (.float .f64 (d 11))).drew := ⟨_, rfl⟩
  have hz4 : Hid (ZT B c n d 4 W4) := by subst hW4; exact zt_step (by decide) hz3.out rfl
  have hb4 : Hid (Below B w W4) := by subst hW4; exact zt_below hb3.out _ _ _ _ _ _
  rw [← hW4]
  clear hW4 hz3 hb3 m0 m1 m2 s0 s1 s2 f0 f1 f2
  rw [rounds_succ]
  go_wp2_with fail
  exact HK.out _ _ (HT.out W4 B hz4.out (by have e := HB.out; subst e; exact hb4.out) _ _ _ _ _ _ _ _ _ _ _ _ _ _ _ _ _ _ _ _ _ _ _ _ _ _ _ _ _ _ _ _ _ _ _ _ _ _ _ _ _ _ _ _ _ _ _ _ _ _ _ _ _ _ _ _ _ _ _ _ _ _ _ _ _ _ _ _ _ _ _ _ _ _ _ _ _ _ _ _ _ _ _ _ _ _ _ _ _ _ _ _ _ _ _ _ _ _ _ _ _ _ _ _ _ _ _ _ _ _ _ _ _ _ _ _ _ _ _ _ _ _ _ _ _ _ _ _ _ _ _ _ _ _ _ _ _ _ _ _ _ _ _ _ _ _ _ _ _ _ _ _ _ _ _ _ _ _ _ _ _ _ _ _ _ _ _ _ _ _ _ _ _ _ _ _ _ _ _ _ _ _ _ _ _ _ _ _ _ _ _ _ _ _ _ _ _ _ _ _ _)
end Go.Proofs.Qxb6614725a
