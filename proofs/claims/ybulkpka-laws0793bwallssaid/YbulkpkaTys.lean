/-
  What is known of this program's types (laid by a small script of ours off the program's own table).
-/
import Derived.Test.YbulkpkaFwDraw
namespace Go.Proofs.Ybulkpka
open Go.Fw Go.RowKit

theorem c3 : Yba.prog.cellsOf 3 = 1 := by kernel_rfl
theorem t3 : Ty1 Yba.prog 3 := ⟨⟨_, Yba.underlying3, rfl⟩, c3⟩
theorem c4 : Yba.prog.cellsOf 4 = 1 := by kernel_rfl
theorem t4 : Ty1 Yba.prog 4 := ⟨⟨_, Yba.underlying4, rfl⟩, c4⟩
theorem c5 : Yba.prog.cellsOf 5 = 1 := by kernel_rfl
theorem t5 : Ty1 Yba.prog 5 := ⟨⟨_, Yba.underlying5, rfl⟩, c5⟩
theorem c22 : Yba.prog.cellsOf 22 = 1 := by kernel_rfl
theorem t22 : Ty1 Yba.prog 22 := ⟨⟨_, Yba.underlying22, rfl⟩, c22⟩
theorem c25 : Yba.prog.cellsOf 25 = 1 := by kernel_rfl
theorem t25 : Ty1 Yba.prog 25 := ⟨⟨_, Yba.underlying25, rfl⟩, c25⟩
theorem c27 : Yba.prog.cellsOf 27 = 1 := by kernel_rfl
theorem t27 : Ty1 Yba.prog 27 := ⟨⟨_, Yba.underlying27, rfl⟩, c27⟩
theorem c29 : Yba.prog.cellsOf 29 = 1 := by kernel_rfl
theorem t29 : Ty1 Yba.prog 29 := ⟨⟨_, Yba.underlying29, rfl⟩, c29⟩
theorem c30 : Yba.prog.cellsOf 30 = 2 := by kernel_rfl
theorem ta30 : TyA Yba.prog 30 2 := ⟨⟨_, Yba.underlying30, rfl⟩, c30, by decide⟩
theorem c34 : Yba.prog.cellsOf 34 = 1 := by kernel_rfl
theorem t34 : Ty1 Yba.prog 34 := ⟨⟨_, Yba.underlying34, rfl⟩, c34⟩
theorem c36 : Yba.prog.cellsOf 36 = 2 := by kernel_rfl
theorem ta36 : TyA Yba.prog 36 2 := ⟨⟨_, Yba.underlying36, rfl⟩, c36, by decide⟩
theorem fl36_0 : Fld Yba.prog 36 0 0 := Fld.of (t := 34) (k := 1) Yba.underlying36 rfl (by kernel_rfl) (by decide)
theorem fl36_1 : Fld Yba.prog 36 1 1 := Fld.of (t := 3) (k := 1) Yba.underlying36 rfl (by kernel_rfl) (by decide)
theorem el22 : Elt Yba.prog 22 30 2 2 := Elt.of Yba.underlying22 (by kernel_rfl) (by decide)
theorem el25 : Elt Yba.prog 25 4 1 1 := Elt.of Yba.underlying25 (by kernel_rfl) (by decide)
theorem el29 : Elt Yba.prog 29 3 1 8 := Elt.of Yba.underlying29 (by kernel_rfl) (by decide)
theorem el34 : Elt Yba.prog 34 29 1 24 := Elt.of Yba.underlying34 (by kernel_rfl) (by decide)
theorem z3 : Zero Yba.prog 3 (.int .i64 0) := Zero.of (by kernel_rfl)
theorem z4 : Zero Yba.prog 4 (.bool false) := Zero.of (by kernel_rfl)
theorem z29 : Zero Yba.prog 29 (.slice none 0 0) := Zero.of (by kernel_rfl)
theorem z36 : Zero Yba.prog 36 (.agg #[.slice none 0 0, .int .i64 0]) := Zero.of (by kernel_rfl)
end Go.Proofs.Ybulkpka
