/-
  The types' rows of the table, 'make', the nil test: for this seat's program.
-/
import Derived.Test.Qxb6603026aRows
import Derived.Test.Qxb6603026aMem
import Derived.Deep.OwnRows
import Derived.Deep.LoopGhost
import Derived.WalkSpells
namespace Go.Proofs.Qxb6603026a
open Go.RowKit

theorem Try.info3 : (Try.prog.info? 3).map (fun i => (i.zero, i.size, i.bytes)) = some (some (.int .i64 0), 1, 8) := by kernel_rfl
theorem Try.info4 : (Try.prog.info? 4).map (fun i => (i.zero, i.size, i.bytes)) = some (some (.bool false), 1, 1) := by kernel_rfl
theorem Try.info26 : (Try.prog.info? 26).map (fun i => (i.zero, i.size, i.bytes)) = some (some (.slice none 0 0), 1, 24) := by kernel_rfl
theorem Try.info67 : (Try.prog.info? 67).map (fun i => (i.zero, i.size, i.bytes)) = some (some (.agg #[.int .i64 0, .int .i64 0]), 2, 16) := by kernel_rfl

/-- 'make([]int, n)' -/
theorem makeI (n : Nat) (hn : n ≤ 4194304) (w : World) :
    (Instr.makeSlice 26 (.int .i64 (n : Int)) (.int .i64 (n : Int))).run Try.prog w = .ok (.slice (some ⟨w.heap.size, 0, none⟩) n n) (w.alloc (.cells (madeCells #[.int .i64 0] n) 3)) :=
  Go.run_make_row' (P := Try.prog) 26 3 (.int .i64 0) 8 Try.underlying26 Try.info3 rfl .i64 .i64 n (by omega) (by omega) w
/-- 'make([]int, 0, n)' -/
theorem makeI0 (n : Nat) (hn : n ≤ 4194304) (w : World) :
    (Instr.makeSlice 26 (.int .i64 0) (.int .i64 (n : Int))).run Try.prog w = .ok (.slice (some ⟨w.heap.size, 0, none⟩) 0 n) (w.alloc (.cells (madeCells #[.int .i64 0] n) 3)) := by
  obtain ⟨i, hi, hz, hs, hb⟩ := info_parts Try.info3
  have h := run_make (P := Try.prog) w 26 3 i (.int .i64 0) Try.underlying26 hi hz .i64 .i64 0 (n : Int) (by omega) (by omega) (by rw [hb]; omega) (by omega)
  rw [hs] at h
  simp only [Int.toNat_zero, Int.toNat_natCast, Nat.mul_one] at h
  exact h
/-- 'make([]bool, n)' -/
theorem makeB (n : Nat) (hn : n ≤ 4194304) (w : World) :
    (Instr.makeSlice 57 (.int .i64 (n : Int)) (.int .i64 (n : Int))).run Try.prog w = .ok (.slice (some ⟨w.heap.size, 0, none⟩) n n) (w.alloc (.cells (madeCells #[.bool false] n) 4)) :=
  Go.run_make_row' (P := Try.prog) 57 4 (.bool false) 1 Try.underlying57 Try.info4 rfl .i64 .i64 n (by omega) (by omega) w
/-- 'make([][]int, n)' -/
theorem makeS (n : Nat) (hn : n ≤ 4194304) (w : World) :
    (Instr.makeSlice 22 (.int .i64 (n : Int)) (.int .i64 (n : Int))).run Try.prog w = .ok (.slice (some ⟨w.heap.size, 0, none⟩) n n) (w.alloc (.cells (madeCells #[.slice none 0 0] n) 26)) :=
  Go.run_make_row' (P := Try.prog) 22 26 (.slice none 0 0) 24 Try.underlying22 Try.info26 rfl .i64 .i64 n (by omega) (by omega) w

theorem nil26 (a : Option Addr) (n c : Nat) (w : World) : (binOp .eql 26 (.slice a n c) (.slice none 0 0)).run Try.prog w = .ok (.bool a.isNone) w :=
  Lib.run_eql_slice_nil w 26 3 a n c 0 0 Try.underlying26
theorem nil22 (a : Option Addr) (n c : Nat) (w : World) : (binOp .eql 22 (.slice a n c) (.slice none 0 0)).run Try.prog w = .ok (.bool a.isNone) w :=
  Lib.run_eql_slice_nil w 22 26 a n c 0 0 Try.underlying22

end Go.Proofs.Qxb6603026a
