/-
  THE PROOF OF 'Rows.FnMiddleIgnoresAPowerOfTwoScaleSaid': the frame after the guide's shell; the arrays are opened here; the walk is Qxb6614725aWhole's.
-/
import Derived.Test.Qxb6614725aRows
import Derived.Test.Qxb6614725aWhole
import Derived.WalkKit
import Derived.ProofKit
import Derived.OpenShut
import Derived.ShutString
import Derived.ChangeOld
import Derived.Below
import Derived.Deep.Strs
namespace Go.Proofs.Qxb6614725a.fnMiddleIgnoresAPowerOfTwoScale
open Go.ChangeShapes Go.WideShapes Go.ChangeAt Go.RowKit

theorem own : ownKnob Try.prog.godebug = none := by kernel_rfl
theorem laidOut : laidOutB Try.prog = true := by kernel_rfl
theorem cells29 : Try.prog.cellsOf 29 = 1 := by kernel_rfl
theorem cells31 : Try.prog.cellsOf 31 = 3 := by kernel_rfl
theorem cells32 : Try.prog.cellsOf 32 = 12 := by kernel_rfl

/-- A float read as data. -/
theorem trod_float {H : Type} {enc : TypeId × Value → H} {P : Program} {w : World} {base : Nat} {spare : Nat → Bool} {held : Bool} {fuel : Nat} {t : TypeId} {cs : List Value} {x : DataW H × List MemPlace} {k : FloatKind}
    (ht : P.underlying t = some (.float k)) (h : DataW.trod enc P w base spare held fuel t cs = some x) : ∃ b, cs = [.float k b] ∧ x = (.lit (.float k b), []) ∧ (Lit.float k b).wf = true := by
  cases fuel with
  | zero => simp [DataW.trod] at h
  | succ n =>
    unfold DataW.trod at h
    rw [ht] at h
    split at h <;> simp_all

theorem three {l : List Value} (h : l.length = 3) : ∃ a b c, l = [a, b, c] := by
  match l, h with
  | [a, b, c], _ => exact ⟨a, b, c, rfl⟩

theorem twelve {l : List Value} (h : l.length = 12) : ∃ a b c d e f g h i j k m, l = [a, b, c, d, e, f, g, h, i, j, k, m] := by
  match l, h with
  | [a, b, c, d, e, f, g, h, i, j, k, m], _ => exact ⟨a, b, c, d, e, f, g, h, i, j, k, m, rfl⟩

/-- A vector read as data: three floats. -/
theorem vec_cells {H : Type} {enc : TypeId × Value → H} {w : World} {base : Nat} {spare : Nat → Bool} {held : Bool} {fuel : Nat} {cs : List Value} {x : DataW H × List MemPlace}
    (h : DataW.trod enc Try.prog w base spare held fuel 31 cs = some x) : ∃ a b c : Nat, cs = [.float .f64 a, .float .f64 b, .float .f64 c] ∧ a < 2 ^ 64 ∧ b < 2 ^ 64 ∧ c < 2 ^ 64 := by
  obtain ⟨xs, n, _, rfl, hl, hlen, hf⟩ := DataW.trod_struct Try.underlying31 h
  rw [cells31] at hl
  obtain ⟨c0, c1, c2, rfl⟩ := three hl
  have hs : xs.length = 3 := hlen
  obtain ⟨y0, y1, y2, rfl⟩ : ∃ a b c, xs = [a, b, c] := by
    match xs, hs with
    | [a, b, c], _ => exact ⟨a, b, c, rfl⟩
  have f0 := hf 0 _ rfl
  have f1 := hf 1 _ rfl
  have f2 := hf 2 _ rfl
  simp [cells29] at f0 f1 f2
  obtain ⟨a0, e0, _, w0⟩ := trod_float Try.underlying29 f0
  obtain ⟨a1, e1, _, w1⟩ := trod_float Try.underlying29 f1
  obtain ⟨a2, e2, _, w2⟩ := trod_float Try.underlying29 f2
  simp at e0 e1 e2
  subst e0 e1 e2
  exact ⟨a0, a1, a2, rfl, of_decide_eq_true w0, of_decide_eq_true w1, of_decide_eq_true w2⟩

/-- Four vectors read as data: twelve floats. -/
theorem four_cells {H : Type} {enc : TypeId × Value → H} {w : World} {base : Nat} {spare : Nat → Bool} {held : Bool} {fuel : Nat} {cs : List Value} {x : DataW H × List MemPlace}
    (h : DataW.trod enc Try.prog w base spare held fuel 32 cs = some x) : ∃ f : Nat → Nat, cs = (full f).toList ∧ ∀ i, i < 12 → f i < 2 ^ 64 := by
  obtain ⟨xs, n, _, rfl, hl, hlen, hf⟩ := DataW.trod_array Try.underlying32 h
  rw [cells32] at hl
  obtain ⟨c0, c1, c2, c3, c4, c5, c6, c7, c8, c9, c10, c11, rfl⟩ := twelve hl
  obtain ⟨y0, y1, y2, y3, rfl⟩ : ∃ a b c d, xs = [a, b, c, d] := by
    match xs, hlen with
    | [a, b, c, d], _ => exact ⟨a, b, c, d, rfl⟩
  have f0 := hf 0 (by decide)
  have f1 := hf 1 (by decide)
  have f2 := hf 2 (by decide)
  have f3 := hf 3 (by decide)
  simp [cells31] at f0 f1 f2 f3
  obtain ⟨a0, a1, a2, e0, p0, p1, p2⟩ := vec_cells f0
  obtain ⟨a3, a4, a5, e1, p3, p4, p5⟩ := vec_cells f1
  obtain ⟨a6, a7, a8, e2, p6, p7, p8⟩ := vec_cells f2
  obtain ⟨a9, a10, a11, e3, p9, p10, p11⟩ := vec_cells f3
  simp at e0 e1 e2 e3
  obtain ⟨rfl, rfl, rfl⟩ := e0
  obtain ⟨rfl, rfl, rfl⟩ := e1
  obtain ⟨rfl, rfl, rfl⟩ := e2
  obtain ⟨rfl, rfl, rfl⟩ := e3
  refine ⟨fun i => [a0, a1, a2, a3, a4, a5, a6, a7, a8, a9, a10, a11].getD i 0, rfl, ?_⟩
  intro i hi
  match i, hi with
  | 0, _ => exact p0
  | 1, _ => exact p1
  | 2, _ => exact p2
  | 3, _ => exact p3
  | 4, _ => exact p4
  | 5, _ => exact p5
  | 6, _ => exact p6
  | 7, _ => exact p7
  | 8, _ => exact p8
  | 9, _ => exact p9
  | 10, _ => exact p10
  | 11, _ => exact p11

theorem arr_of {W : World} {base : Nat} {v : Value} (h : Value.okWide Try.prog W .any base 32 v) : ∃ cs, v = .agg cs := by
  obtain ⟨cs, rfl, _⟩ : ∃ cs, v = .agg cs ∧ cs.size = Try.prog.cellsOf 32 ∧ Row.okWide Try.prog W .any base 32 cs := by
    simpa [Value.okWide, Try.underlying32] using h
  exact ⟨cs, rfl⟩

set_option maxRecDepth 100000 in
theorem lifted (os : Os) (started : os.Started) (H : Type) (enc : TypeId × Value → H) :
    ReturnsInHanded {} Try.checked os 5 .any (Rows.fnMiddleIgnoresAPowerOfTwoScaleSpec.pre6 enc Try.prog Try.f5 Rows.fnMiddleIgnoresAPowerOfTwoScaleRow.domain false) (Rows.fnMiddleIgnoresAPowerOfTwoScaleSpec.post enc Try.prog Try.f5 false true false false) := by
  refine returnsInHanded_of_change (C := Try.checked) own started (by kernel_rfl) Try.func5
    (ChangeSpec.witness6 (enc := enc) (C := Try.checked) false ⟨#[], #[.agg #[.float .f64 0, .float .f64 0, .float .f64 0, .float .f64 0, .float .f64 0, .float .f64 0, .float .f64 0, .float .f64 0, .float .f64 0, .float .f64 0, .float .f64 0, .float .f64 0], .agg #[.float .f64 0, .float .f64 0, .float .f64 0, .float .f64 0, .float .f64 0, .float .f64 0, .float .f64 0, .float .f64 0, .float .f64 0, .float .f64 0, .float .f64 0, .float .f64 0], .int .i64 0], []⟩ 8 (by kernel_rfl) (by kernel_rfl) (by kernel_rfl) (by kernel_rfl)) ?_
  intro W base args ds gs before hval0 hW hcnd _
  have hval : ∀ (j : Nat) t v, Try.f5.params[j]? = some t → args[j]? = some v → Value.okWide Try.prog W .any base t v := hval0
  have hW' := hW
  obtain ⟨p, q, hA0, hV, rfl, hfz, hnd⟩ := hW
  have hA : DataW.TrodAll enc Try.prog W 0 (fun _ => true) true Try.f5.params.toList args.toList ds p := hA0
  rw [Try.params5] at hA hval
  obtain ⟨v0, vs0, d0, ds0, p0, q0, hargs, rfl, rfl, h0, r0⟩ := trodAll_cons hA
  obtain ⟨v1, vs1, d1, ds1, p1, q1, rfl, rfl, rfl, h1, r1⟩ := trodAll_cons r0
  obtain ⟨v2, vs2, d2, ds2, p2, q2, rfl, rfl, rfl, h2, r2⟩ := trodAll_cons r1
  obtain ⟨rfl, rfl, rfl⟩ := trodAll_nil r2
  obtain rfl : args = #[v0, v1, v2] := by cases args; simp_all
  obtain ⟨rfl, rfl⟩ := trodVars_none hV
  have k0 := h0
  have k1 := h1
  have lt0 : ∀ x ∈ p0, x.block < W.heap.size := by obtain ⟨m, hm⟩ := k0; exact DataW.trod_lt m _ _ _ hm
  have lt1 : ∀ x ∈ p1, x.block < W.heap.size := by obtain ⟨m, hm⟩ := k1; exact DataW.trod_lt m _ _ _ hm
  obtain ⟨A0, rfl⟩ := arr_of (hval 0 32 v0 rfl rfl)
  obtain ⟨A1, rfl⟩ := arr_of (hval 1 32 v1 rfl rfl)
  obtain ⟨c, hc, lc⟩ : ∃ f : Nat → Nat, A0 = full f ∧ ∀ i, i < 12 → f i < 2 ^ 64 := by
    obtain ⟨m, hm⟩ := h0
    obtain ⟨f, e, l⟩ := four_cells hm
    exact ⟨f, Array.ext' e, l⟩
  obtain ⟨n, hn, _⟩ : ∃ f : Nat → Nat, A1 = full f ∧ ∀ i, i < 12 → f i < 2 ^ 64 := by
    obtain ⟨m, hm⟩ := h1
    obtain ⟨f, e, l⟩ := four_cells hm
    exact ⟨f, Array.ext' e, l⟩
  obtain ⟨a2, rfl, rfl, rfl, w2⟩ := open_int Try.underlying3 (hval 2 3 v2 rfl rfl) h2
  clear hA0 hval0
  have hwalk : Calls Try.prog 5 #[.agg A0, .agg A1, .int .i64 a2] W fun e w' => e = .returned (.bool true) ∧ Below W.heap.size W w' := by
    rw [hc, hn]
    exact whole_t c n lc a2 W
  refine hwalk.mono fun e W' ⟨he, bel⟩ => ?_
  subst he
  exact ⟨_, rfl, _, _, _, [], _, [], hW', trodAll_mk1 (shut_bool Try.underlying4 _), (trodAll_cons_mk (Below.trod laidOut (by kernel_rfl) (of_decide_eq_true (by kernel_rfl)) k0 bel lt0) (trodAll_cons_mk (Below.trod laidOut (by kernel_rfl) (of_decide_eq_true (by kernel_rfl)) k1 bel lt1) (trodAll_cons_mk (shut_int Try.underlying3 w2) trodAll_mk0))), rfl, bel.frame _, fun h => by cases h⟩

theorem over : Rows.fnMiddleIgnoresAPowerOfTwoScaleRow.holds Try.pinned (OpenSpec.ofChange Rows.fnMiddleIgnoresAPowerOfTwoScaleSpec) :=
  OpenClaim.holds_of_wide 5 Try.f5 rfl rfl rfl rfl rfl rfl rfl ⟨rfl, rfl, rfl, rfl, rfl⟩ rfl rfl rfl rfl rfl (by kernel_rfl) Try.func5 (by kernel_rfl)
    (of_decide_eq_true (by kernel_rfl)) (by unfold Func.isWrapper; first | (rw [if_pos (by decide +kernel)]; kernel_rfl) | (rw [if_neg (by decide +kernel)]; exact ⟨rfl, rfl⟩))
    (fun os started H enc _ => lifted os started H enc)

/-- THE STATEMENT -/
theorem proved : Rows.FnMiddleIgnoresAPowerOfTwoScaleSaid := over
end Go.Proofs.Qxb6614725a.fnMiddleIgnoresAPowerOfTwoScale
