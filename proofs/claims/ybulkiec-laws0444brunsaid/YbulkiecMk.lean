/-
  LawS0444BRun: the makes of three.
-/
import Derived.Test.YbulkiecFill
namespace Go.Proofs.Ybulkiec
open Go.ChangeShapes Go.WideShapes Go.ChangeAt Go.RowKit
set_option linter.unusedVariables false

theorem made_three (z : Value) : madeCells #[z] 3 = #[z, z, z] := by
  apply Array.ext
  · rw [size_madeCells]; rfl
  · intro i h1 h2
    rw [size_madeCells] at h1
    match i, h1 with
    | 0, _ => simp [madeCells]
    | 1, _ => simp [madeCells]
    | 2, _ => simp [madeCells]

theorem Yba.linfo4 : (Yba.prog.info? 4).map (fun i => (i.zero, i.size, i.bytes)) = some (some (.bool false), 1, 1) := by kernel_rfl
theorem Yba.linfo28 : (Yba.prog.info? 28).map (fun i => (i.zero, i.size, i.bytes)) = some (some (.slice none 0 0), 1, 24) := by kernel_rfl
theorem Yba.linfo80 : (Yba.prog.info? 80).map (fun i => (i.zero, i.size, i.bytes)) = some (some (.slice none 0 0), 1, 24) := by kernel_rfl
theorem mk49 (w : World) : (Instr.makeSlice 49 (.int .i64 3) (.int .i64 3)).run Yba.prog w = .ok (.slice (some ⟨w.heap.size, 0, none⟩) 3 3) (w.alloc (.cells #[.bool false, .bool false, .bool false] 4)) := by
  have h := run_make_row' (P := Yba.prog) 49 4 (.bool false) 1 Yba.underlying49 Yba.linfo4 rfl .i64 .i64 3 (by omega) (by omega) w
  rw [made_three] at h
  exact h
theorem mk50 (w : World) : (Instr.makeSlice 50 (.int .i64 3) (.int .i64 3)).run Yba.prog w = .ok (.slice (some ⟨w.heap.size, 0, none⟩) 3 3) (w.alloc (.cells #[.slice none 0 0, .slice none 0 0, .slice none 0 0] 28)) := by
  have h := run_make_row' (P := Yba.prog) 50 28 (.slice none 0 0) 24 Yba.underlying50 Yba.linfo28 rfl .i64 .i64 3 (by omega) (by omega) w
  rw [made_three] at h
  exact h
theorem mk54 (w : World) : (Instr.makeSlice 54 (.int .i64 3) (.int .i64 3)).run Yba.prog w = .ok (.slice (some ⟨w.heap.size, 0, none⟩) 3 3) (w.alloc (.cells #[.slice none 0 0, .slice none 0 0, .slice none 0 0] 80)) := by
  have h := run_make_row' (P := Yba.prog) 54 80 (.slice none 0 0) 24 Yba.underlying54 Yba.linfo80 rfl .i64 .i64 3 (by omega) (by omega) w
  rw [made_three] at h
  exact h
theorem drew_cell {w : World} {a : Addr} {v : Value} (h : w.cell? a = some v) : w.drew.cell? a = some v := h
end Go.Proofs.Ybulkiec
