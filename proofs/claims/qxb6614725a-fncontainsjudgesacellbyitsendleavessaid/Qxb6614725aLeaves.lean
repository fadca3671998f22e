/-
  THE PROOF OF 'Rows.FnContainsJudgesACellByItsEndLeavesSaid': the frame by the guide's shell; the walk over the contracts of Qxb6614725aCells; the plain law in Qxb6614725aPlain.
-/
import Derived.Test.Qxb6614725aRows
import Derived.Test.Qxb6614725aCells
import Derived.WalkKit
import Derived.ProofKit
import Derived.OpenShut
import Derived.ShutString
namespace Go.Proofs.Qxb6614725a.fnContainsJudgesACellByItsEndLeaves
open Go.ChangeShapes Go.WideShapes Go.ChangeAt Go.RowKit
open Go.ChangeMaps (open_string shut_string)
set_option linter.unusedVariables false      -- a walk need not use every 'w<i>' (that an integer argument fits its kind)

theorem own : ownKnob Try.prog.godebug = none := by kernel_rfl

/-! ### STEP 1: THE WALK: the Go text returns true. 'Grown w w'': the world has at most new blocks (Derived/RowKit3.lean). Part the cases AHEAD of 'go_enter' where a test parts the walk; take each callee by a contract of your own. -/
theorem walkN (c d : Nat) (hc : c < 18446744073709551616) (hd : d < 18446744073709551616) (w : World) :
    Calls Try.prog 4 #[.int .u64 (c : Int), .int .u64 (d : Int)] w fun e w' => e = .returned (.bool true) ∧ Grown w w' := by
  have hL : Plain.rmin d < 18446744073709551616 := Plain.rmin_lt hd
  have hH : Plain.rmax d < 18446744073709551616 := Plain.rmax_lt hd
  have f1 := Plain.inside_first hd
  have f2 := Plain.inside_last hd
  have f3 := Plain.inside_ends hc hd
  cases hb : Plain.ok d with
  | false =>
    rw [hb] at f1 f2
    have h1 : Plain.inside c (Plain.rmin d) = false := by
      have e : Plain.rmin d = 0 := by unfold Plain.rmin; rw [hb]; rfl
      rw [e]; exact Plain.inside_bad_right Plain.ok_zero
    rw [h1, Bool.false_and] at f3
    go_enter Try.func4, Try.ntmps4
    go_wp2_with fail
    refine (rangeMin_t d hd _).mono ?_
    rintro e w' ⟨rfl, rfl⟩
    go_wp2_with fail
    refine (rangeMax_t d hd _).mono ?_
    rintro e w' ⟨rfl, rfl⟩
    go_wp2_with fail
    refine (contains_t d _ hd hL _).mono ?_
    rintro e w' ⟨rfl, rfl⟩
    go_wp2_with fail
    refine (zzValidKey_t d hd _).mono ?_
    rintro e w' ⟨rfl, rfl⟩
    go_wp2_with fail
    refine (contains_t d _ hd hH _).mono ?_
    rintro e w' ⟨rfl, rfl⟩
    go_wp2_with fail
    refine (zzValidKey_t d hd _).mono ?_
    rintro e w' ⟨rfl, rfl⟩
    go_wp2_with fail
    refine (contains_t c d hc hd _).mono ?_
    rintro e w' ⟨rfl, rfl⟩
    go_wp2_with fail
    refine (contains_t c _ hc hL _).mono ?_
    rintro e w' ⟨rfl, rfl⟩
    go_wp2_with fail
    go_ret
    exact ⟨rfl, Grown.refl _⟩
  | true =>
    rw [hb] at f1 f2
    cases h1 : Plain.inside c (Plain.rmin d) with
    | true =>
      rw [h1, Bool.true_and] at f3
      go_enter Try.func4, Try.ntmps4
      go_wp2_with fail
      refine (rangeMin_t d hd _).mono ?_
      rintro e w' ⟨rfl, rfl⟩
      go_wp2_with fail
      refine (rangeMax_t d hd _).mono ?_
      rintro e w' ⟨rfl, rfl⟩
      go_wp2_with fail
      refine (contains_t d _ hd hL _).mono ?_
      rintro e w' ⟨rfl, rfl⟩
      go_wp2_with fail
      refine (zzValidKey_t d hd _).mono ?_
      rintro e w' ⟨rfl, rfl⟩
      go_wp2_with fail
      refine (contains_t d _ hd hH _).mono ?_
      rintro e w' ⟨rfl, rfl⟩
      go_wp2_with fail
      refine (zzValidKey_t d hd _).mono ?_
      rintro e w' ⟨rfl, rfl⟩
      go_wp2_with fail
      refine (contains_t c d hc hd _).mono ?_
      rintro e w' ⟨rfl, rfl⟩
      go_wp2_with fail
      refine (contains_t c _ hc hL _).mono ?_
      rintro e w' ⟨rfl, rfl⟩
      go_wp2_with fail
      refine (contains_t c _ hc hH _).mono ?_
      rintro e w' ⟨rfl, rfl⟩
      go_wp2_with fail
      go_ret
      exact ⟨rfl, Grown.refl _⟩
    | false =>
      rw [h1, Bool.false_and] at f3
      go_enter Try.func4, Try.ntmps4
      go_wp2_with fail
      refine (rangeMin_t d hd _).mono ?_
      rintro e w' ⟨rfl, rfl⟩
      go_wp2_with fail
      refine (rangeMax_t d hd _).mono ?_
      rintro e w' ⟨rfl, rfl⟩
      go_wp2_with fail
      refine (contains_t d _ hd hL _).mono ?_
      rintro e w' ⟨rfl, rfl⟩
      go_wp2_with fail
      refine (zzValidKey_t d hd _).mono ?_
      rintro e w' ⟨rfl, rfl⟩
      go_wp2_with fail
      refine (contains_t d _ hd hH _).mono ?_
      rintro e w' ⟨rfl, rfl⟩
      go_wp2_with fail
      refine (zzValidKey_t d hd _).mono ?_
      rintro e w' ⟨rfl, rfl⟩
      go_wp2_with fail
      refine (contains_t c d hc hd _).mono ?_
      rintro e w' ⟨rfl, rfl⟩
      go_wp2_with fail
      refine (contains_t c _ hc hL _).mono ?_
      rintro e w' ⟨rfl, rfl⟩
      go_wp2_with fail
      go_ret
      exact ⟨rfl, Grown.refl _⟩

theorem walk (a0 : Int) (a1 : Int) (w0 : (Lit.int .u64 a0).wf = true) (w1 : (Lit.int .u64 a1).wf = true) (w : World) :
    Calls Try.prog 4 #[.int .u64 a0, .int .u64 a1] w fun e w' => e = .returned (.bool true) ∧ Grown w w' := by
  obtain ⟨l0, u0⟩ := bounds_u64 w0
  obtain ⟨l1, u1⟩ := bounds_u64 w1
  obtain ⟨c, rfl⟩ := Int.eq_ofNat_of_zero_le l0
  obtain ⟨d, rfl⟩ := Int.eq_ofNat_of_zero_le l1
  exact walkN c d (by omega) (by omega) w

/-! ### THE ROW's STEP: WRITTEN OUT: LEAVE IT -/
set_option maxRecDepth 100000 in
theorem lifted (os : Os) (started : os.Started) (H : Type) (enc : TypeId × Value → H) :
    ReturnsInHanded {} Try.checked os 4 .any (Rows.fnContainsJudgesACellByItsEndLeavesSpec.pre6 enc Try.prog Try.f4 Rows.fnContainsJudgesACellByItsEndLeavesRow.domain false) (Rows.fnContainsJudgesACellByItsEndLeavesSpec.post enc Try.prog Try.f4 false true false false) := by
  refine returnsInHanded_of_change (C := Try.checked) own started (by kernel_rfl) Try.func4
    (ChangeSpec.witness6 (enc := enc) (C := Try.checked) false ⟨#[], #[.int .u64 0, .int .u64 0], []⟩ 8 (by kernel_rfl) (by kernel_rfl) (by kernel_rfl) (by kernel_rfl)) ?_
  intro W base args ds gs before hval0 hW hcnd _
  have hval : ∀ (j : Nat) t v, Try.f4.params[j]? = some t → args[j]? = some v → Value.okWide Try.prog W .any base t v := hval0
  have hW' := hW
  obtain ⟨p, q, hA0, hV, rfl, hfz, hnd⟩ := hW
  have hA : DataW.TrodAll enc Try.prog W 0 (fun _ => true) true Try.f4.params.toList args.toList ds p := hA0
  rw [Try.params4] at hA hval
  obtain ⟨v0, vs0, d0, ds0, p0, q0, hargs, rfl, rfl, h0, r0⟩ := trodAll_cons hA
  obtain ⟨v1, vs1, d1, ds1, p1, q1, rfl, rfl, rfl, h1, r1⟩ := trodAll_cons r0
  obtain ⟨rfl, rfl, rfl⟩ := trodAll_nil r1
  obtain rfl : args = #[v0, v1] := by cases args; simp_all
  obtain ⟨rfl, rfl⟩ := trodVars_none hV
  obtain ⟨a0, rfl, rfl, rfl, w0⟩ := open_int Try.underlying22 (hval 0 22 v0 rfl rfl) h0
  obtain ⟨a1, rfl, rfl, rfl, w1⟩ := open_int Try.underlying22 (hval 1 22 v1 rfl rfl) h1
  clear hA0 hval0
  simp only [List.append_nil] at hW'
  refine (walk a0 a1 w0 w1 W).mono fun e W' ⟨he, hg⟩ => ?_
  subst he
  exact ⟨_, rfl, post_of_same (pa := []) (pv := []) hW' (fun _ _ _ => (trodAll_cons_mk (shut_bool Try.underlying4 _) trodAll_mk0)) (fun sp _ => (trodAll_cons_mk (shut_int Try.underlying22 w0) (trodAll_cons_mk (shut_int Try.underlying22 w1) trodAll_mk0))) (fun _ _ => rfl) rfl
    (hg.frame _) hg.2.1 (ok_one (by kernel_rfl) rfl (okWide_bool_mk Try.underlying4 _))⟩

theorem over : Rows.fnContainsJudgesACellByItsEndLeavesRow.holds Try.pinned (OpenSpec.ofChange Rows.fnContainsJudgesACellByItsEndLeavesSpec) :=
  OpenClaim.holds_of_wide 4 Try.f4 rfl rfl rfl rfl rfl rfl rfl ⟨rfl, rfl, rfl, rfl, rfl⟩ rfl rfl rfl rfl rfl (by kernel_rfl) Try.func4 (by kernel_rfl)
    (of_decide_eq_true (by kernel_rfl)) (by unfold Func.isWrapper; first | (rw [if_pos (by decide +kernel)]; kernel_rfl) | (rw [if_neg (by decide +kernel)]; exact ⟨rfl, rfl⟩))
    (fun os started H enc _ => lifted os started H enc)

/-- ████ THE STATEMENT ████ -/
theorem proved : Rows.FnContainsJudgesACellByItsEndLeavesSaid :=
  over
end Go.Proofs.Qxb6614725a.fnContainsJudgesACellByItsEndLeaves
