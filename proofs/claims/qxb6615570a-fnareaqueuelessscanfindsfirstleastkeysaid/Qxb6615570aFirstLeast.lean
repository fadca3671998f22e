/-
  THE PROOF OF 'Rows.FnAreaQueueLessScanFindsFirstLeastKeySaid': the frame after the guide's shell for slices; the slice of parts is opened here; the walk is Qxb6615570aScan's.
-/
import Derived.Test.Qxb6615570aRows
import Derived.Test.Qxb6615570aScan
import Derived.WalkKit
import Derived.ProofKit
import Derived.OpenShut
import Derived.ShutString
import Derived.ChangeOld
import Derived.Below
import Derived.Deep.Slices
namespace Go.Proofs.Qxb6615570a.fnAreaQueueLessScanFindsFirstLeastKey
open Go.ChangeShapes Go.WideShapes Go.ChangeAt Go.RowKit
set_option linter.unusedVariables false

theorem own : ownKnob Try.prog.godebug = none := by kernel_rfl
theorem laidOut : laidOutB Try.prog = true := by kernel_rfl
theorem cells27 : Try.prog.cellsOf 27 = 5 := by kernel_rfl
theorem cells24 : Try.prog.cellsOf 24 = 1 := by kernel_rfl
theorem cells3 : Try.prog.cellsOf 3 = 1 := by kernel_rfl
theorem cells25 : Try.prog.cellsOf 25 = 1 := by kernel_rfl

/-- A float read as data. -/
theorem trod_float {H : Type} {enc : TypeId × Value → H} {P : Program} {w : World} {base : Nat} {spare : Nat → Bool} {held : Bool} {fuel : Nat} {t : TypeId} {cs : List Value} {x : DataW H × List MemPlace} {k : FloatKind}
    (ht : P.underlying t = some (.float k)) (h : DataW.trod enc P w base spare held fuel t cs = some x) : ∃ b, cs = [.float k b] ∧ x = (.lit (.float k b), []) ∧ (Lit.float k b).wf = true := by
  cases fuel with
  | zero => simp [DataW.trod] at h
  | succ n =>
    unfold DataW.trod at h
    rw [ht] at h
    split at h <;> simp_all

theorem five_list {l : List Value} (h : l.length = 5) : ∃ a b c d e, l = [a, b, c, d, e] := by
  match l, h with
  | [a, b, c, d, e], _ => exact ⟨a, b, c, d, e, rfl⟩

/-- One part read as data: its five cells. -/
theorem part_cells {H : Type} {enc : TypeId × Value → H} {w : World} {base : Nat} {spare : Nat → Bool} {held : Bool} {fuel : Nat} {cs : List Value} {x : DataW H × List MemPlace}
    (h : DataW.trod enc Try.prog w base spare held fuel 27 cs = some x) : ∃ (f : Nat) (i j l d : Int), cs = five f i j l d := by
  obtain ⟨xs, n, _, rfl, hl, hlen, hf⟩ := DataW.trod_struct Try.underlying27 h
  rw [cells27] at hl
  obtain ⟨c0, c1, c2, c3, c4, rfl⟩ := five_list hl
  have hs : xs.length = 5 := hlen
  obtain ⟨y0, y1, y2, y3, y4, rfl⟩ : ∃ a b c d e, xs = [a, b, c, d, e] := by
    match xs, hs with
    | [a, b, c, d, e], _ => exact ⟨a, b, c, d, e, rfl⟩
  have f0 := hf 0 _ rfl
  have f1 := hf 1 _ rfl
  have f2 := hf 2 _ rfl
  have f3 := hf 3 _ rfl
  have f4 := hf 4 _ rfl
  simp [cells24, cells3, cells25] at f0 f1 f2 f3 f4
  obtain ⟨a0, e0, _⟩ := trod_float Try.underlying24 f0
  obtain ⟨a1, e1, _⟩ := DataW.trod_int Try.underlying3 f1
  obtain ⟨a2, e2, _⟩ := DataW.trod_int Try.underlying3 f2
  obtain ⟨a3, e3, _⟩ := DataW.trod_int Try.underlying3 f3
  obtain ⟨a4, e4, _⟩ := DataW.trod_int Try.underlying25 f4
  simp at e0 e1 e2 e3 e4
  subst e0 e1 e2 e3 e4
  exact ⟨a0, a1, a2, a3, a4, rfl⟩

/-- WHAT THE WALK IS TOLD OF THE PARTS: none, or a row of them. -/
def IsParts (w : World) (a : Option Addr) (len : Nat) : Prop :=
  len = 0 ∨ ∃ b off key pi pj pl pd, a = some ⟨b, off, none⟩ ∧ Parts w b off len key pi pj pl pd

theorem walk (a : Option Addr) (len cap : Nat) (w : World) (hp : IsParts w a len) :
    Calls Try.prog 3 #[.slice a len cap] w fun e w' => e = .returned (.bool true) ∧ Below w.heap.size w w' := by
  by_cases h1 : len ≤ 1048576
  · by_cases h2 : len ≤ 16384
    · rcases hp with rfl | ⟨b, off, key, pi, pj, pl, pd, rfl, hP⟩
      · go_enter Try.func3, Try.ntmps3
        go_wp2_with fail
        refine (bytes_t _ 0 cap (by omega) _).mono ?_
        rintro e w' ⟨rfl, rfl⟩
        go_wp2_with fail
        go_ret
        exact ⟨rfl, Below.refl _ _⟩
      · by_cases h0 : len = 0
        · subst h0
          go_enter Try.func3, Try.ntmps3
          go_wp2_with fail
          refine (bytes_t _ 0 cap (by omega) _).mono ?_
          rintro e w' ⟨rfl, rfl⟩
          go_wp2_with fail
          go_ret
          exact ⟨rfl, Below.refl _ _⟩
        · exact main_t b off len cap key pi pj pl pd (by omega) h2 w hP
    · have h2' : (16384 : Int) < (len : Int) := by omega
      clear hp
      go_enter Try.func3, Try.ntmps3
      go_wp2_with fail
      refine (bytes_t _ len cap h1 _).mono ?_
      rintro e w' ⟨rfl, rfl⟩
      go_wp2_with fail
      go_ret
      exact ⟨rfl, Below.refl _ _⟩
  · clear hp
    go_enter Try.func3, Try.ntmps3
    go_wp2_with fail
    refine (bytes_big _ len cap h1 _).mono ?_
    rintro e w' ⟨rfl, rfl⟩
    go_wp2_with fail
    go_ret
    exact ⟨rfl, Below.refl _ _⟩

/-! ### THE ROW's STEP -/
theorem parts_of {H : Type} {enc : TypeId × Value → H} {W : World} {fuel : Nat} {a : Option Addr} {len cap : Nat} {x : DataW H × List MemPlace}
    (hf : DataW.trod enc Try.prog W 0 (fun _ => true) true fuel 22 [.slice a len cap] = some x) : IsParts W a len := by
  rcases Deep.open_slice Try.underlying22 hf with ⟨hcs, _⟩ | ⟨ad, l, c, m, n, D, Pl, hcs, _, hl, _, hm, _, hx⟩
  · simp at hcs
    exact .inl hcs.2.1
  · simp at hcs
    obtain ⟨rfl, rfl, rfl⟩ := hcs
    by_cases h0 : len = 0
    · exact .inl h0
    · refine .inr ?_
      have hlen : len ≤ m := by rw [hm]; exact hl
      have hx' : ∀ i, i < len → ∃ (f : Nat) (i' j l d : Int), W.cells? 0 (ad.add (i * 5)) 5 = some (five f i' j l d) := by
        intro i hi
        obtain ⟨cs', h1, h2⟩ := hx i (by omega)
        obtain ⟨f, i', j, l, d, rfl⟩ := part_cells h2
        rw [cells27] at h1
        exact ⟨f, i', j, l, d, h1⟩
      obtain ⟨F, hF⟩ := Deep.choose_lt (α := Nat × Int × Int × Int × Int) (p := fun i y => W.cells? 0 (ad.add (i * 5)) 5 = some (five y.1 y.2.1 y.2.2.1 y.2.2.2.1 y.2.2.2.2)) (fun i hi => by
        obtain ⟨f, i', j, l, d, h⟩ := hx' i hi
        exact ⟨(f, i', j, l, d), h⟩)
      obtain ⟨b, off, spot⟩ := ad
      have h00 := (World.cells?_some (hF 0 (by omega))).2.2 0 (by omega)
      have hspot : spot = none := by
        have : W.cell? (⟨b, off, spot⟩ : Addr) = some (Value.float .f64 (F 0).1) := by simpa [Addr.add, five] using h00
        simpa using World.cell?_spot this
      subst hspot
      have hcell : ∀ i, i < len → ∀ j, j < 5 → W.cell? ⟨b, off + i * 5 + j, none⟩ = (five (F i).1 (F i).2.1 (F i).2.2.1 (F i).2.2.2.1 (F i).2.2.2.2)[j]? := by
        intro i hi j hj
        have := (World.cells?_some (hF i hi)).2.2 j hj
        rwa [add_plain, add_plain] at this
      refine ⟨b, off, fun i => (F i).1, fun i => (F i).2.1, fun i => (F i).2.2.1, fun i => (F i).2.2.2.1, fun i => (F i).2.2.2.2, rfl, ?_, fun i hi => ⟨?_, ?_, ?_, ?_, ?_⟩⟩
      · have := hcell 0 (by omega) 0 (by omega)
        exact World.block_lt_of_cell? W ⟨b, off + 0 * 5 + 0, none⟩ (by rw [this]; rfl)
      · exact hcell i hi 0 (by omega)
      · exact hcell i hi 1 (by omega)
      · exact hcell i hi 2 (by omega)
      · exact hcell i hi 3 (by omega)
      · exact hcell i hi 4 (by omega)

set_option maxRecDepth 100000 in
theorem lifted (os : Os) (started : os.Started) (H : Type) (enc : TypeId × Value → H) :
    ReturnsInHanded {} Try.checked os 3 .any (Rows.fnAreaQueueLessScanFindsFirstLeastKeySpec.pre6 enc Try.prog Try.f3 Rows.fnAreaQueueLessScanFindsFirstLeastKeyRow.domain false) (Rows.fnAreaQueueLessScanFindsFirstLeastKeySpec.post enc Try.prog Try.f3 false true false false) := by
  refine returnsInHanded_of_change (C := Try.checked) own started (by kernel_rfl) Try.func3
    (ChangeSpec.witness6 (enc := enc) (C := Try.checked) false ⟨#[], #[.slice none 0 0], []⟩ 8 (by kernel_rfl) (by kernel_rfl) (by kernel_rfl) (by kernel_rfl)) ?_
  intro W base args ds gs before hval0 hW hcnd _
  have hval : ∀ (j : Nat) t v, Try.f3.params[j]? = some t → args[j]? = some v → Value.okWide Try.prog W .any base t v := hval0
  have hW' := hW
  obtain ⟨p, q, hA0, hV, rfl, hfz, hnd⟩ := hW
  have hA : DataW.TrodAll enc Try.prog W 0 (fun _ => true) true Try.f3.params.toList args.toList ds p := hA0
  rw [Try.params3] at hA hval
  obtain ⟨v0, vs0, d0, ds0, p0, q0, hargs, rfl, rfl, h0, r0⟩ := trodAll_cons hA
  obtain ⟨rfl, rfl, rfl⟩ := trodAll_nil r0
  obtain rfl : args = #[v0] := by cases args; simp_all
  obtain ⟨rfl, rfl⟩ := trodVars_none hV
  obtain ⟨a0, len0, cap0, rfl⟩ := okWide_slice Try.underlying22 (hval 0 22 v0 rfl rfl)
  have k0 := h0
  have lt0 : ∀ x ∈ p0, x.block < W.heap.size := by obtain ⟨m, hm⟩ := k0; exact DataW.trod_lt m _ _ _ hm
  have w0 : IsParts W a0 len0 := by
    obtain ⟨fuel, hf⟩ := h0
    exact parts_of hf
  clear hA0 hval0
  refine (walk a0 len0 cap0 W w0).mono fun e W' ⟨he, bel⟩ => ?_
  subst he
  exact ⟨_, rfl, _, _, _, [], _, [], hW', trodAll_mk1 (shut_bool Try.underlying4 _), (trodAll_cons_mk (Below.trod laidOut (by kernel_rfl) (of_decide_eq_true (by kernel_rfl)) k0 bel lt0) trodAll_mk0), rfl, bel.frame _, fun h => by cases h⟩

theorem over : Rows.fnAreaQueueLessScanFindsFirstLeastKeyRow.holds Try.pinned (OpenSpec.ofChange Rows.fnAreaQueueLessScanFindsFirstLeastKeySpec) :=
  OpenClaim.holds_of_wide 3 Try.f3 rfl rfl rfl rfl rfl rfl rfl ⟨rfl, rfl, rfl, rfl, rfl⟩ rfl rfl rfl rfl rfl (by kernel_rfl) Try.func3 (by kernel_rfl)
    (of_decide_eq_true (by kernel_rfl)) (by unfold Func.isWrapper; first | (rw [if_pos (by decide +kernel)]; kernel_rfl) | (rw [if_neg (by decide +kernel)]; exact ⟨rfl, rfl⟩))
    (fun os started H enc _ => lifted os started H enc)

/-- THE STATEMENT -/
theorem proved : Rows.FnAreaQueueLessScanFindsFirstLeastKeySaid := over
end Go.Proofs.Qxb6615570a.fnAreaQueueLessScanFindsFirstLeastKey
