/-
  THE END of FnMiddleIgnoresAPowerOfTwoScale: both middles, their sameness, the corners' sum, the length and the signs.
-/
import Derived.Test.Qxb6614725aSame
namespace Go.Proofs.Qxb6614725a
open Go.RowKit
attribute [local go_sem] run_store_float

set_option maxRecDepth 100000 in
set_option maxHeartbeats 4000000 in
theorem endN_t (c n d g1 g2 s : Nat → Nat) (P1 P2 : Nat → Nat → Nat → Prop) (w0 W : World) (B : Nat) (hz : ZT B c n d 4 W) (hbel : Below w0.heap.size w0 W)
    (M1 : MidOf c n P1) (M2 : MidOf d n P2) (hS : SameOk P1 P2) (hA : Adds c g1 g2 s) (hO : ∀ x y z, P1 x y z → ∃ p q r d1 dd, Ok x y z (s 0) (s 1) (s 2) p q r d1 dd)
    (u0 u1 u2 u5 u6 u7 u8 u9 u10 u12 u13 u14 u15 u16 u17 u18 u19 u20 u21 u22 u23 u24 u25 u26 u27 u28 u29 u30 u31 u32 u33 u34 u35 u36 u37 u38 u39 u40 u41 u42 u43 u44 u45 u46 u47 u48 u49 u50 u51 u52 u53 u54 u55 u56 u57 u58 u59 u60 u61 u62 u63 u64 u65 u66 u67 u68 u69 u70 u71 u72 u73 u74 u75 u76 u77 u78 u79 u80 u81 u82 u83 u84 u85 u86 u87 u88 u89 u90 u91 u92 u93 u94 u95 u96 u97 u98 u99 u100 u101 u102 u103 u104 u105 u106 u107 u108 u109 u110 u111 u112 u113 u114 u115 u116 u117 u118 u119 u120 u121 u122 u123 u124 u125 u126 u127 u128 u129 u130 u131 u132 u133 u134 u135 u136 u137 u138 u139 u140 u141 u142 u143 u144 u145 u146 u147 u148 u149 u150 u151 u152 u153 u154 u155 u156 u157 u158 u159 u160 u161 u162 u163 u164 u165 u166 u167 u168 u169 u170 u171 u172 u173 u174 u175 u176 u177 u178 u179 u180 u181 u182 u183 u184 u185 u186 u187 u188 u189 u190 u191 u192 u193 u194 u195 u196 u197 u198 u199 u200 u201 u202 u203 : Value) :
    Code.wp Try.prog tail1 (bodyPost Try.prog Try.f5 fun e w' => e = .returned (.bool true) ∧ Below w0.heap.size w0 w') ⟨#[u0, u1, u2, .pointer (some ⟨B, 0, none⟩), .pointer (some ⟨B + 1, 0, none⟩), u5, u6, u7, u8, u9, u10, .pointer (some ⟨B + 1 + 1, 0, none⟩), u12, u13, u14, u15, u16, u17, u18, u19, u20, u21, u22, u23, u24, u25, u26, u27, u28, u29, u30, u31, u32, u33, u34, u35, u36, u37, u38, u39, u40, u41, u42, u43, u44, u45, u46, u47, u48, u49, u50, u51, u52, u53, u54, u55, u56, u57, u58, u59, u60, u61, u62, u63, u64, u65, u66, u67, u68, u69, u70, u71, u72, u73, u74, u75, u76, u77, u78, u79, u80, u81, u82, u83, u84, u85, u86, u87, u88, u89, u90, u91, u92, u93, u94, u95, u96, u97, u98, u99, u100, u101, u102, u103, u104, u105, u106, u107, u108, u109, u110, u111, u112, u113, u114, u115, u116, u117, u118, u119, u120, u121, u122, u123, u124, u125, u126, u127, u128, u129, u130, u131, u132, u133, u134, u135, u136, u137, u138, u139, u140, u141, u142, u143, u144, u145, u146, u147, u148, u149, u150, u151, u152, u153, u154, u155, u156, u157, u158, u159, u160, u161, u162, u163, u164, u165, u166, u167, u168, u169, u170, u171, u172, u173, u174, u175, u176, u177, u178, u179, u180, u181, u182, u183, u184, u185, u186, u187, u188, u189, u190, u191, u192, u193, u194, u195, u196, u197, u198, u199, u200, u201, u202, u203], []⟩ W := by
  have hz0 : Hid (ZT B c n d 4 W) := hz
  have hb0 : Hid (Below w0.heap.size w0 W) := hbel
  have HM1 : Hid (∀ w, Calls Try.prog 15 #[.agg (full c), .agg (full n)] w fun e w' => ∃ x y z, e = .returned (V3 x y z) ∧ P1 x y z ∧ Below w.heap.size w w') := fun w => zz_t c n P1 M1 w
  have HM2 : Hid (∀ w, Calls Try.prog 15 #[.agg (full d), .agg (full n)] w fun e w' => ∃ x y z, e = .returned (V3 x y z) ∧ P2 x y z ∧ Below w.heap.size w w') := fun w => zz_t d n P2 M2 w
  have HS : Hid (SameOk P1 P2) := hS
  have HO : Hid (∀ x y z, P1 x y z → ∃ p q r d1 dd, Ok x y z (s 0) (s 1) (s 2) p q r d1 dd) := hO
  clear hO
  have q0a := run_add (hA 0 (by decide)).1
  have q0b := run_add (hA 0 (by decide)).2.1
  have q0c := run_add (hA 0 (by decide)).2.2
  have q1a := run_add (hA 1 (by decide)).1
  have q1b := run_add (hA 1 (by decide)).2.1
  have q1c := run_add (hA 1 (by decide)).2.2
  have q2a := run_add (hA 2 (by decide)).1
  have q2b := run_add (hA 2 (by decide)).2.1
  have q2c := run_add (hA 2 (by decide)).2.2
  simp only [Nat.add_zero, Nat.reduceAdd] at q0a q0b q0c q1a q1b q1c q2a q2b q2c
  clear hz hbel M1 M2 hS hA
  conv => arg 2; whnf
  go_wp2_with (first
    | (refine wpList_load_row rfl 32 (.tmp 3) rfl B rfl 32 (full c) (0, 0) _ hz0.out.1 Try.underlying32 rfl (by rw [full_size]; exact size32) ?_)
    | (refine wpList_load_row rfl 32 (.tmp 4) rfl (B + 1) rfl 32 (full n) (0, 0) _ hz0.out.2.1 Try.underlying32 rfl (by rw [full_size]; exact size32) ?_)
    | (refine wpList_load_row rfl 32 (.tmp 11) rfl (B + 1 + 1) rfl 32 (full d) (0, 0) _ hz1.out.2.2 Try.underlying32 rfl (by rw [full_size]; exact size32) ?_)
    | (refine wpList_load_row rfl 32 (.tmp 4) rfl (B + 1) rfl 32 (full n) (0, 0) _ hz1.out.2.1 Try.underlying32 rfl (by rw [full_size]; exact size32) ?_)
    | (go_at_call_of 15 (full c); refine (HM1.out _).mono ?_; rintro e w1 ⟨x, y, z, rfl, hP1', r1'⟩; have hP1 : Hid (P1 x y z) := hP1'; have r1 : Hid (Below W.heap.size W w1) := r1'; clear hP1' r1')
    | (refine wpList_store_row rfl 31 (.tmp 13) (.tmp 90) rfl w1.heap.size #[.float .f64 x, .float .f64 y, .float .f64 z] rfl rfl 31 #[.float .f64 0, .float .f64 0, .float .f64 0] (heap_alloc_new w1 _) size31 rfl (by simp [Value.oneCell']) ?_; obtain ⟨V1, hV1⟩ : ∃ V, V = (w1.alloc (.cells #[.float .f64 0, .float .f64 0, .float .f64 0] 31)).setRow w1.heap.size #[.float .f64 x, .float .f64 y, .float .f64 z] := ⟨_, rfl⟩; have nb1 : Hid (Below w1.heap.size w1 V1) := (by subst hV1; exact new_below _ _ _ _); have nr1 : Hid (V1.heap[w1.heap.size]? = some (.cells #[.float .f64 x, .float .f64 y, .float .f64 z] 31 (0, 0))) := (by subst hV1; exact new_row _ _ _ _); rw [← hV1]; clear hV1; have hz1 : Hid (ZT B c n d 4 V1) := zt_keep (zt_keep hz0.out r1.out) nb1.out; have hb1 : Hid (Below w0.heap.size w0 V1) := below_chain (below_chain hb0.out r1.out) nb1.out; clear hz0 hb0)
    | (go_at_call_of 15 (full d); refine (HM2.out _).mono ?_; rintro e w2 ⟨x', y', z', rfl, hP2', r2'⟩; have hP2 : Hid (P2 x' y' z') := hP2'; have r2 : Hid (Below V1.heap.size V1 w2) := r2'; clear hP2' r2')
    | (refine wpList_store_row rfl 31 (.tmp 14) (.tmp 93) rfl w2.heap.size #[.float .f64 x', .float .f64 y', .float .f64 z'] rfl rfl 31 #[.float .f64 0, .float .f64 0, .float .f64 0] (heap_alloc_new w2 _) size31 rfl (by simp [Value.oneCell']) ?_; obtain ⟨V2, hV2⟩ : ∃ V, V = (w2.alloc (.cells #[.float .f64 0, .float .f64 0, .float .f64 0] 31)).setRow w2.heap.size #[.float .f64 x', .float .f64 y', .float .f64 z'] := ⟨_, rfl⟩; have nb2 : Hid (Below w2.heap.size w2 V2) := (by subst hV2; exact new_below _ _ _ _); have nr2 : Hid (V2.heap[w2.heap.size]? = some (.cells #[.float .f64 x', .float .f64 y', .float .f64 z'] 31 (0, 0))) := (by subst hV2; exact new_row _ _ _ _); rw [← hV2]; clear hV2; have hz2 : Hid (ZT B c n d 4 V2) := zt_keep (zt_keep hz1.out r2.out) nb2.out; have hb2 : Hid (Below w0.heap.size w0 V2) := below_chain (below_chain hb1.out r2.out) nb2.out; have nm2 : Hid (V2.heap[w1.heap.size]? = some (.cells #[.float .f64 x, .float .f64 y, .float .f64 z] 31 (0, 0))) := (by have a1 := (r2.out.block _ (lt_of_heap' nr1.out)).trans nr1.out; exact (nb2.out.block _ (lt_of_heap' a1)).trans a1); obtain ⟨a0, a1, a2⟩ := row3 nm2.out; obtain ⟨b0, b1, b2⟩ := row3 nr2.out; have c0 := zt_c hz2.out 0 (by decide); have c1 := zt_c hz2.out 1 (by decide); have c2 := zt_c hz2.out 2 (by decide); have c3 := zt_c hz2.out 3 (by decide); have c4 := zt_c hz2.out 4 (by decide); have c5 := zt_c hz2.out 5 (by decide); have c6 := zt_c hz2.out 6 (by decide); have c7 := zt_c hz2.out 7 (by decide); have c8 := zt_c hz2.out 8 (by decide); have c9 := zt_c hz2.out 9 (by decide); have c10 := zt_c hz2.out 10 (by decide); have c11 := zt_c hz2.out 11 (by decide); clear hz1 hb1)
    | (go_at_call_of 16 x; refine (HS.out x y z x' y' z' hP1.out hP2.out _).1.mono ?_; rintro e X1 ⟨rfl, hw'⟩; obtain rfl := hw'.symm)
    | (go_at_call_of 16 y; refine (HS.out x y z x' y' z' hP1.out hP2.out _).2.1.mono ?_; rintro e X2 ⟨rfl, hw'⟩; obtain rfl := hw'.symm)
    | (go_at_call_of 16 z; refine (HS.out x y z x' y' z' hP1.out hP2.out _).2.2.mono ?_; rintro e X3 ⟨rfl, hw'⟩; obtain rfl := hw'.symm)
    | (refine wpList_store_row rfl 31 (.tmp 15) (.tmp 161) rfl V2.heap.size #[.float .f64 (s 0), .float .f64 (s 1), .float .f64 (s 2)] rfl rfl 31 #[.float .f64 0, .float .f64 0, .float .f64 0] (heap_alloc_new V2 _) size31 rfl (by simp [Value.oneCell']) ?_; obtain ⟨V3, hV3⟩ : ∃ V, V = (V2.alloc (.cells #[.float .f64 0, .float .f64 0, .float .f64 0] 31)).setRow V2.heap.size #[.float .f64 (s 0), .float .f64 (s 1), .float .f64 (s 2)] := ⟨_, rfl⟩; have nb3 : Hid (Below V2.heap.size V2 V3) := (by subst hV3; exact new_below _ _ _ _); have nr3 : Hid (V3.heap[V2.heap.size]? = some (.cells #[.float .f64 (s 0), .float .f64 (s 1), .float .f64 (s 2)] 31 (0, 0))) := (by subst hV3; exact new_row _ _ _ _); rw [← hV3]; clear hV3; have nm3 : Hid (V3.heap[w1.heap.size]? = some (.cells #[.float .f64 x, .float .f64 y, .float .f64 z] 31 (0, 0))) := (nb3.out.block _ (lt_of_heap' nm2.out)).trans nm2.out; have hb3 : Hid (Below w0.heap.size w0 V3) := below_chain hb2.out nb3.out; clear a0 a1 a2 b0 b1 b2 c0 c1 c2 c3 c4 c5 c6 c7 c8 c9 c10 c11; obtain ⟨a0, a1, a2⟩ := row3 nm3.out; obtain ⟨b0, b1, b2⟩ := row3 nr3.out; obtain ⟨p, q, r, d1, dd, ok⟩ := HO.out x y z hP1.out; have t1 := ok.lo; have t2 := ok.hi; have OK : Hid (Ok x y z (s 0) (s 1) (s 2) p q r d1 dd) := ok; clear ok)
    | (go_at_call 17; refine (zzDot_t x y z p q r d1 dd OK.out.h1 OK.out.h2 OK.out.h3 OK.out.h4 OK.out.h5 _).mono ?_; rintro e V4 ⟨rfl, hV'⟩; have hV : Hid (Below V3.heap.size V3 V4) := hV'; clear a0 a1 a2 b0 b1 b2; obtain ⟨a0, a1, a2⟩ := row3 ((hV'.block _ (lt_of_heap' nm3.out)).trans nm3.out); obtain ⟨b0, b1, b2⟩ := row3 ((hV'.block _ (lt_of_heap' nr3.out)).trans nr3.out); clear hV')
    | (go_at_call_of 18 (s 0); refine (OK.out.sx _).mono ?_; rintro e W1 ⟨rfl, hw'⟩; obtain rfl := hw'.symm)
    | (go_at_call_of 18 (s 1); refine (OK.out.sy _).mono ?_; rintro e W2 ⟨rfl, hw'⟩; obtain rfl := hw'.symm)
    | (go_at_call_of 18 (s 2); refine (OK.out.sz _).mono ?_; rintro e W3 ⟨rfl, hw'⟩; obtain rfl := hw'.symm))
  all_goals (first | exact bodyPost_ret (results_tmp Try.results5 _ _ _) rfl ⟨rfl, hb3.out⟩ | exact bodyPost_ret (results_tmp Try.results5 _ _ _) rfl ⟨rfl, below_chain hb3.out hV.out⟩)
end Go.Proofs.Qxb6614725a
