/-
  THE WALKS of newActive and ZZNewActive: a new empty slice whose room is the least multiple of 8 that is at least n.
-/
import Derived.Test.Qxb6615594aRows
import Derived.WalkKit
import Derived.WalkSpells
namespace Go.Proofs.Qxb6615594a
open Go.RowKit

theorem Try.info43 : (Try.prog.info? 43).map (fun i => (i.zero, i.size, i.bytes)) = some (some (.int .u64 0), 1, 8) := by kernel_rfl

theorem make_run (n : Nat) (hn : n ≤ 70000) (r : Nat) (hr : r = (n + 7) / 8 * 8) (w : World) :
    (Instr.makeSlice 22 (.int .i64 0) (.int .i64 (((n : Int) + 8 - 1) / 8 * 8))).run Try.prog w =
      .ok (.slice (some ⟨w.heap.size, 0, none⟩) 0 r) (w.alloc (.cells (madeCells #[.int .u64 0] r) 43)) := by
  obtain ⟨i, hi, hz0, hz1, hz2⟩ := info_parts Try.info43
  have e : (((n : Int) + 8 - 1) / 8 * 8) = (r : Int) := by omega
  have h := run_make (P := Try.prog) w 22 43 i (.int .u64 0) Try.underlying22 hi hz0 .i64 .i64 0 (r : Int) (Int.le_refl 0) (by omega) (by rw [hz2]; omega) (by omega)
  rw [e, h, hz1]
  simp [Value.cells]

theorem newActive_t (n : Nat) (hn : n ≤ 70000) (w : World) :
    Calls Try.prog 6 #[.int .i64 (n : Int)] w fun e w' => ∃ r : Nat, n ≤ r ∧ r < n + 8 ∧ r % 8 = 0 ∧ e = .returned (.slice (some ⟨w.heap.size, 0, none⟩) 0 r) ∧ w' = w.alloc (.cells (madeCells #[.int .u64 0] r) 43) := by
  obtain ⟨r, hr⟩ : ∃ r, r = (n + 7) / 8 * 8 := ⟨_, rfl⟩
  have hm := make_run n hn r hr w
  have H : Hid (n ≤ r ∧ r < n + 8 ∧ r % 8 = 0) := by unfold Hid; omega
  clear hr
  go_enter Try.func6, Try.ntmps6
  go_wp2
  go_ret
  exact ⟨r, H.out.1, H.out.2.1, H.out.2.2, rfl, rfl⟩

theorem zzNewActive_t (n : Nat) (hn : n ≤ 70000) (w : World) :
    Calls Try.prog 5 #[.int .i64 (n : Int)] w fun e w' => ∃ r : Nat, n ≤ r ∧ r < n + 8 ∧ r % 8 = 0 ∧ e = .returned (.slice (some ⟨w.heap.size, 0, none⟩) 0 r) ∧ w' = w.alloc (.cells (madeCells #[.int .u64 0] r) 43) := by
  go_enter Try.func5, Try.ntmps5
  go_wp2_with fail
  refine (newActive_t n hn _).mono ?_
  rintro e w' ⟨r, h1, h2, h3, rfl, rfl⟩
  have H : Hid (n ≤ r ∧ r < n + 8 ∧ r % 8 = 0) := ⟨h1, h2, h3⟩
  clear h1 h2 h3
  go_wp2_with fail
  go_ret
  exact ⟨r, H.out.1, H.out.2.1, H.out.2.2, rfl, rfl⟩
end Go.Proofs.Qxb6615594a
