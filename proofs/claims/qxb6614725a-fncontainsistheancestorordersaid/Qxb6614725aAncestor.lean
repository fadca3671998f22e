/-
  THE PROOF OF 'Rows.FnContainsIsTheAncestorOrderSaid': the frame by the guide's shell; the walk over the contracts of Qxb6614725aCells; the plain law in Qxb6614725aPlain.
-/
import Derived.Test.Qxb6614725aRows
import Derived.Test.Qxb6614725aCells
import Derived.WalkKit
import Derived.ProofKit
import Derived.OpenShut
import Derived.ShutString
namespace Go.Proofs.Qxb6614725a.fnContainsIsTheAncestorOrder
open Go.ChangeShapes Go.WideShapes Go.ChangeAt Go.RowKit
open Go.ChangeMaps (open_string shut_string)
set_option linter.unusedVariables false      -- a walk need not use every 'w<i>' (that an integer argument fits its kind)

theorem own : ownKnob Try.prog.godebug = none := by kernel_rfl

/-! ### STEP 1: THE WALK: the Go text returns true. 'Grown w w'': the world has at most new blocks (Derived/RowKit3.lean). Part the cases AHEAD of 'go_enter' where a test parts the walk; take each callee by a contract of your own. -/
theorem walkN (c d e : Nat) (hc : c < 18446744073709551616) (hd : d < 18446744073709551616) (he : e < 18446744073709551616) (w : World) :
    Calls Try.prog 3 #[.int .u64 (c : Int), .int .u64 (d : Int), .int .u64 (e : Int)] w fun e w' => e = .returned (.bool true) ∧ Grown w w' := by
  have f0 : Plain.inside c d = inCell c d := Plain.inside_cells hc hd
  have f1 := Plain.inside_refl hc
  cases hA : Plain.inside c d with
  | false =>
    rw [hA] at f0
    have f0' : inCell c d = false := f0.symm
    clear f0
    cases hk : Plain.ok c with
    | false =>
      rw [hk] at f1
      go_enter Try.func3, Try.ntmps3
      go_wp2_with fail
      refine (contains_t c d hc hd _).mono ?_
      rintro e1 w' ⟨rfl, rfl⟩
      go_wp2_with fail
      refine (contains_t d e hd he _).mono ?_
      rintro e1 w' ⟨rfl, rfl⟩
      go_wp2_with fail
      refine (contains_t c e hc he _).mono ?_
      rintro e1 w' ⟨rfl, rfl⟩
      go_wp2_with fail
      refine (contains_t d c hd hc _).mono ?_
      rintro e1 w' ⟨rfl, rfl⟩
      go_wp2_with fail
      refine (zzInCell_t c d hc hd _).mono ?_
      rintro e1 w' ⟨rfl, rfl⟩
      go_wp2_with fail
      refine (contains_t c c hc hc _).mono ?_
      rintro e1 w' ⟨rfl, rfl⟩
      go_wp2_with fail
      refine (zzValidKey_t c hc _).mono ?_
      rintro e1 w' ⟨rfl, rfl⟩
      go_wp2_with fail
      go_ret
      exact ⟨rfl, Grown.refl _⟩
    | true =>
      rw [hk] at f1
      go_enter Try.func3, Try.ntmps3
      go_wp2_with fail
      refine (contains_t c d hc hd _).mono ?_
      rintro e1 w' ⟨rfl, rfl⟩
      go_wp2_with fail
      refine (contains_t d e hd he _).mono ?_
      rintro e1 w' ⟨rfl, rfl⟩
      go_wp2_with fail
      refine (contains_t c e hc he _).mono ?_
      rintro e1 w' ⟨rfl, rfl⟩
      go_wp2_with fail
      refine (contains_t d c hd hc _).mono ?_
      rintro e1 w' ⟨rfl, rfl⟩
      go_wp2_with fail
      refine (zzInCell_t c d hc hd _).mono ?_
      rintro e1 w' ⟨rfl, rfl⟩
      go_wp2_with fail
      refine (contains_t c c hc hc _).mono ?_
      rintro e1 w' ⟨rfl, rfl⟩
      go_wp2_with fail
      refine (zzValidKey_t c hc _).mono ?_
      rintro e1 w' ⟨rfl, rfl⟩
      go_wp2_with fail
      go_ret
      exact ⟨rfl, Grown.refl _⟩
  | true =>
    rw [hA] at f0
    have f0' : inCell c d = true := f0.symm
    clear f0
    have hk : Plain.ok c = true := (Plain.inside_ok hA).1
    rw [hk] at f1
    cases hD : Plain.inside d c with
    | true =>
      obtain rfl : c = d := Plain.inside_antisymm hc hd hA hD
      clear hD hA
      cases hB : Plain.inside c e with
      | true =>
        go_enter Try.func3, Try.ntmps3
        go_wp2_with fail
        refine (contains_t c c hc hc _).mono ?_
        rintro e1 w' ⟨rfl, rfl⟩
        go_wp2_with fail
        refine (contains_t c e hc he _).mono ?_
        rintro e1 w' ⟨rfl, rfl⟩
        go_wp2_with fail
        refine (contains_t c e hc he _).mono ?_
        rintro e1 w' ⟨rfl, rfl⟩
        go_wp2_with fail
        refine (contains_t c c hc hc _).mono ?_
        rintro e1 w' ⟨rfl, rfl⟩
        go_wp2_with fail
        refine (zzInCell_t c c hc hc _).mono ?_
        rintro e1 w' ⟨rfl, rfl⟩
        go_wp2_with fail
        refine (contains_t c c hc hc _).mono ?_
        rintro e1 w' ⟨rfl, rfl⟩
        go_wp2_with fail
        refine (zzValidKey_t c hc _).mono ?_
        rintro e1 w' ⟨rfl, rfl⟩
        go_wp2_with fail
        go_ret
        exact ⟨rfl, Grown.refl _⟩
      | false =>
        go_enter Try.func3, Try.ntmps3
        go_wp2_with fail
        refine (contains_t c c hc hc _).mono ?_
        rintro e1 w' ⟨rfl, rfl⟩
        go_wp2_with fail
        refine (contains_t c e hc he _).mono ?_
        rintro e1 w' ⟨rfl, rfl⟩
        go_wp2_with fail
        refine (contains_t c e hc he _).mono ?_
        rintro e1 w' ⟨rfl, rfl⟩
        go_wp2_with fail
        refine (contains_t c c hc hc _).mono ?_
        rintro e1 w' ⟨rfl, rfl⟩
        go_wp2_with fail
        refine (zzInCell_t c c hc hc _).mono ?_
        rintro e1 w' ⟨rfl, rfl⟩
        go_wp2_with fail
        refine (contains_t c c hc hc _).mono ?_
        rintro e1 w' ⟨rfl, rfl⟩
        go_wp2_with fail
        refine (zzValidKey_t c hc _).mono ?_
        rintro e1 w' ⟨rfl, rfl⟩
        go_wp2_with fail
        go_ret
        exact ⟨rfl, Grown.refl _⟩
    | false =>
      cases hB : Plain.inside d e with
      | true =>
        have hC : Plain.inside c e = true := Plain.inside_trans hc hd he hA hB
        go_enter Try.func3, Try.ntmps3
        go_wp2_with fail
        refine (contains_t c d hc hd _).mono ?_
        rintro e1 w' ⟨rfl, rfl⟩
        go_wp2_with fail
        refine (contains_t d e hd he _).mono ?_
        rintro e1 w' ⟨rfl, rfl⟩
        go_wp2_with fail
        refine (contains_t c e hc he _).mono ?_
        rintro e1 w' ⟨rfl, rfl⟩
        go_wp2_with fail
        refine (contains_t d c hd hc _).mono ?_
        rintro e1 w' ⟨rfl, rfl⟩
        go_wp2_with fail
        refine (zzInCell_t c d hc hd _).mono ?_
        rintro e1 w' ⟨rfl, rfl⟩
        go_wp2_with fail
        refine (contains_t c c hc hc _).mono ?_
        rintro e1 w' ⟨rfl, rfl⟩
        go_wp2_with fail
        refine (zzValidKey_t c hc _).mono ?_
        rintro e1 w' ⟨rfl, rfl⟩
        go_wp2_with fail
        go_ret
        exact ⟨rfl, Grown.refl _⟩
      | false =>
        go_enter Try.func3, Try.ntmps3
        go_wp2_with fail
        refine (contains_t c d hc hd _).mono ?_
        rintro e1 w' ⟨rfl, rfl⟩
        go_wp2_with fail
        refine (contains_t d e hd he _).mono ?_
        rintro e1 w' ⟨rfl, rfl⟩
        go_wp2_with fail
        refine (contains_t c e hc he _).mono ?_
        rintro e1 w' ⟨rfl, rfl⟩
        go_wp2_with fail
        refine (contains_t d c hd hc _).mono ?_
        rintro e1 w' ⟨rfl, rfl⟩
        go_wp2_with fail
        refine (zzInCell_t c d hc hd _).mono ?_
        rintro e1 w' ⟨rfl, rfl⟩
        go_wp2_with fail
        refine (contains_t c c hc hc _).mono ?_
        rintro e1 w' ⟨rfl, rfl⟩
        go_wp2_with fail
        refine (zzValidKey_t c hc _).mono ?_
        rintro e1 w' ⟨rfl, rfl⟩
        go_wp2_with fail
        go_ret
        exact ⟨rfl, Grown.refl _⟩

theorem walk (a0 : Int) (a1 : Int) (a2 : Int) (w0 : (Lit.int .u64 a0).wf = true) (w1 : (Lit.int .u64 a1).wf = true) (w2 : (Lit.int .u64 a2).wf = true) (w : World) :
    Calls Try.prog 3 #[.int .u64 a0, .int .u64 a1, .int .u64 a2] w fun e w' => e = .returned (.bool true) ∧ Grown w w' := by
  obtain ⟨l0, u0⟩ := bounds_u64 w0
  obtain ⟨l1, u1⟩ := bounds_u64 w1
  obtain ⟨l2, u2⟩ := bounds_u64 w2
  obtain ⟨c, rfl⟩ := Int.eq_ofNat_of_zero_le l0
  obtain ⟨d, rfl⟩ := Int.eq_ofNat_of_zero_le l1
  obtain ⟨e, rfl⟩ := Int.eq_ofNat_of_zero_le l2
  exact walkN c d e (by omega) (by omega) (by omega) w

/-! ### THE ROW's STEP: WRITTEN OUT: LEAVE IT -/
set_option maxRecDepth 100000 in
theorem lifted (os : Os) (started : os.Started) (H : Type) (enc : TypeId × Value → H) :
    ReturnsInHanded {} Try.checked os 3 .any (Rows.fnContainsIsTheAncestorOrderSpec.pre6 enc Try.prog Try.f3 Rows.fnContainsIsTheAncestorOrderRow.domain false) (Rows.fnContainsIsTheAncestorOrderSpec.post enc Try.prog Try.f3 false true false false) := by
  refine returnsInHanded_of_change (C := Try.checked) own started (by kernel_rfl) Try.func3
    (ChangeSpec.witness6 (enc := enc) (C := Try.checked) false ⟨#[], #[.int .u64 0, .int .u64 0, .int .u64 0], []⟩ 8 (by kernel_rfl) (by kernel_rfl) (by kernel_rfl) (by kernel_rfl)) ?_
  intro W base args ds gs before hval0 hW hcnd _
  have hval : ∀ (j : Nat) t v, Try.f3.params[j]? = some t → args[j]? = some v → Value.okWide Try.prog W .any base t v := hval0
  have hW' := hW
  obtain ⟨p, q, hA0, hV, rfl, hfz, hnd⟩ := hW
  have hA : DataW.TrodAll enc Try.prog W 0 (fun _ => true) true Try.f3.params.toList args.toList ds p := hA0
  rw [Try.params3] at hA hval
  obtain ⟨v0, vs0, d0, ds0, p0, q0, hargs, rfl, rfl, h0, r0⟩ := trodAll_cons hA
  obtain ⟨v1, vs1, d1, ds1, p1, q1, rfl, rfl, rfl, h1, r1⟩ := trodAll_cons r0
  obtain ⟨v2, vs2, d2, ds2, p2, q2, rfl, rfl, rfl, h2, r2⟩ := trodAll_cons r1
  obtain ⟨rfl, rfl, rfl⟩ := trodAll_nil r2
  obtain rfl : args = #[v0, v1, v2] := by cases args; simp_all
  obtain ⟨rfl, rfl⟩ := trodVars_none hV
  obtain ⟨a0, rfl, rfl, rfl, w0⟩ := open_int Try.underlying22 (hval 0 22 v0 rfl rfl) h0
  obtain ⟨a1, rfl, rfl, rfl, w1⟩ := open_int Try.underlying22 (hval 1 22 v1 rfl rfl) h1
  obtain ⟨a2, rfl, rfl, rfl, w2⟩ := open_int Try.underlying22 (hval 2 22 v2 rfl rfl) h2
  clear hA0 hval0
  simp only [List.append_nil] at hW'
  refine (walk a0 a1 a2 w0 w1 w2 W).mono fun e W' ⟨he, hg⟩ => ?_
  subst he
  exact ⟨_, rfl, post_of_same (pa := []) (pv := []) hW' (fun _ _ _ => (trodAll_cons_mk (shut_bool Try.underlying4 _) trodAll_mk0)) (fun sp _ => (trodAll_cons_mk (shut_int Try.underlying22 w0) (trodAll_cons_mk (shut_int Try.underlying22 w1) (trodAll_cons_mk (shut_int Try.underlying22 w2) trodAll_mk0)))) (fun _ _ => rfl) rfl
    (hg.frame _) hg.2.1 (ok_one (by kernel_rfl) rfl (okWide_bool_mk Try.underlying4 _))⟩

theorem over : Rows.fnContainsIsTheAncestorOrderRow.holds Try.pinned (OpenSpec.ofChange Rows.fnContainsIsTheAncestorOrderSpec) :=
  OpenClaim.holds_of_wide 3 Try.f3 rfl rfl rfl rfl rfl rfl rfl ⟨rfl, rfl, rfl, rfl, rfl⟩ rfl rfl rfl rfl rfl (by kernel_rfl) Try.func3 (by kernel_rfl)
    (of_decide_eq_true (by kernel_rfl)) (by unfold Func.isWrapper; first | (rw [if_pos (by decide +kernel)]; kernel_rfl) | (rw [if_neg (by decide +kernel)]; exact ⟨rfl, rfl⟩))
    (fun os started H enc _ => lifted os started H enc)

/-- ████ THE STATEMENT ████ -/
theorem proved : Rows.FnContainsIsTheAncestorOrderSaid :=
  over
end Go.Proofs.Qxb6614725a.fnContainsIsTheAncestorOrder
