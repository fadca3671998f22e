/-
  THE COPY of the hosts: make and copy, as run equations for the walk.
-/
import Derived.Test.Qxb6615497aState
import Derived.Laws.CopyRow
import Derived.Lib.Builder
import Derived.Laws.Pointers
namespace Go.Proofs.Qxb6615497a
open Go.RowKit

theorem Try.info9 : (Try.prog.info? 9).map (fun i => (i.zero, i.size, i.bytes)) = some (some (.string ByteArray.empty), 1, 16) := by kernel_rfl

def strs (host : Nat → ByteArray) (n : Nat) : List Value := (List.range n).map fun i => .string (host i)

theorem make_run (n : Nat) (hn : n ≤ 32768) (w : World) :
    (Instr.makeSlice 22 (.int .i64 (n : Int)) (.int .i64 (n : Int))).run Try.prog w = .ok (.slice (some ⟨w.heap.size, 0, none⟩) n n) (w.alloc (.cells (madeCells #[.string ByteArray.empty] n) 9)) := by
  obtain ⟨i, hi, hz0, hz1, hz2⟩ := info_parts Try.info9
  have h := run_make (P := Try.prog) w 22 9 i (.string ByteArray.empty) Try.underlying22 hi hz0 .i64 .i64 (n : Int) (n : Int) (by omega) (by omega) (by rw [hz2]; omega) (by omega)
  rw [h, hz1]
  simp [Value.cells]

theorem setRow_alloc (w : World) (cur cs : Array Value) (e : TypeId) : (w.alloc (.cells cur e)).setRow w.heap.size cs = w.alloc (.cells cs e) := by
  unfold World.setRow World.alloc
  simp only
  congr 1
  apply Array.ext_getElem?
  intro i
  rw [Array.getElem?_modify, Array.getElem?_push, Array.getElem?_push]
  by_cases hi : i = w.heap.size
  · simp [hi]
  · simp [hi, Ne.symm hi]

/-- the copy of the hosts -/
theorem copy_run (x : Addr) (n c : Nat) (host : Nat → ByteArray) (w : World) (hH : Hosts (some x) n host w) (ty : TypeId) :
    (Builtin.copy_ #[22, 22] ty #[.slice (some ⟨w.heap.size, 0, none⟩) n n, .slice (some x) n c]).run Try.prog (w.alloc (.cells (madeCells #[.string ByteArray.empty] n) 9)) = .ok (.int .i64 (n : Int)) (w.alloc (.cells (strs host n).toArray 9)) := by
  have hinfo : (Try.prog.info? 9).map (·.size) = some 1 := by
    obtain ⟨i, hi, hz0, hz1, hz2⟩ := info_parts Try.info9
    rw [hi]; simp [hz1]
  have hlen : (strs host n).length = n := by simp [strs]
  have hm : (madeCells #[Value.string ByteArray.empty] n).size = n := size_madeCells _ _
  have h := run_copy_row (P := Try.prog) (w.alloc (.cells (madeCells #[.string ByteArray.empty] n) 9)) 22 22 ty 9 w.heap.size 0 n n x n c (madeCells #[.string ByteArray.empty] n) 9 (strs host n) Try.underlying22 hinfo (heap_alloc_new w _) (by simp [hlen])
    (fun j v hj => by
      have hjn : j < n := by
        have := (List.getElem?_eq_some_iff.1 hj).1
        omega
      obtain ⟨b, off, e, hb, hcell⟩ := hH j hjn
      cases e
      have hv : v = .string (host j) := by
        simp [strs, hjn] at hj; exact hj.symm
      subst hv
      rw [WideShapes.add_plain]
      exact (((Below.refl w.heap.size w).alloc (Nat.le_refl _) _).cell (p := ⟨b, off + j, none⟩) hb).trans hcell)
    (by rw [hlen, hm]; omega) (by simp [strs, Value.oneCell'])
  rw [h, setRow_alloc, hlen]
  have e : (List.take 0 (madeCells #[Value.string ByteArray.empty] n).toList ++ strs host n ++ List.drop (0 + n) (madeCells #[Value.string ByteArray.empty] n).toList) = strs host n := by
    rw [List.drop_eq_nil_of_le (by simp [hm])]
    simp
  rw [e]
  rfl

/-- what the copy holds -/
theorem copy_cells (host : Nat → ByteArray) (n : Nat) (w : World) (i : Nat) (hi : i < n) : (w.alloc (.cells (strs host n).toArray 9)).cell? ⟨w.heap.size, i, none⟩ = some (.string (host i)) := by
  rw [cell_at (heap_alloc_new w (.cells (strs host n).toArray 9))]
  simp [strs, hi]


/-! ### '==' and '!=' on pointers -/
theorem info_some {P : Program} {t : TypeId} (h : (P.info? t).isSome = true) : ∃ j, P.info? t = some j := Option.isSome_iff_exists.1 h
theorem neq29_same (a : Addr) (w : World) : (binOp .neq 29 (.pointer (some a)) (.pointer (some a))).run Try.prog w = .ok (.bool false) w := by
  obtain ⟨j, hj⟩ := info_some (P := Try.prog) (t := 52) (by kernel_rfl)
  exact Lib.run_neq_ptr_same w a Try.underlying29 hj
theorem neq24_same (a : Addr) (w : World) : (binOp .neq 24 (.pointer (some a)) (.pointer (some a))).run Try.prog w = .ok (.bool false) w := by
  obtain ⟨j, hj⟩ := info_some (P := Try.prog) (t := 39) (by kernel_rfl)
  exact Lib.run_neq_ptr_same w a Try.underlying24 hj
theorem eql29_nil (a : Addr) (w : World) : (binOp .eql 29 (.pointer (some a)) (.pointer none)).run Try.prog w = .ok (.bool false) w :=
  run_eql_pointer_nil w 29 (some a) (by kernel_rfl)
theorem neq24_nil (w : World) : (binOp .neq 24 (.pointer none) (.pointer none)).run Try.prog w = .ok (.bool false) w :=
  run_neq_pointer_nil w 24 none (by kernel_rfl)
end Go.Proofs.Qxb6615497a
