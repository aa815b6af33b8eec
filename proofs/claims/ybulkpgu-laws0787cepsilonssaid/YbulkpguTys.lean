/-
  What is known of this program's types (laid by a small script of ours off the program's own table).
-/
import Derived.Test.YbulkpguFwHeap
namespace Go.Proofs.Ybulkpgu
open Go.Fw Go.RowKit

theorem c3 : Yba.prog.cellsOf 3 = 1 := by kernel_rfl
theorem t3 : Ty1 Yba.prog 3 := ⟨⟨_, Yba.underlying3, rfl⟩, c3⟩
theorem c4 : Yba.prog.cellsOf 4 = 1 := by kernel_rfl
theorem t4 : Ty1 Yba.prog 4 := ⟨⟨_, Yba.underlying4, rfl⟩, c4⟩
theorem c5 : Yba.prog.cellsOf 5 = 1 := by kernel_rfl
theorem t5 : Ty1 Yba.prog 5 := ⟨⟨_, Yba.underlying5, rfl⟩, c5⟩
theorem c21 : Yba.prog.cellsOf 21 = 1 := by kernel_rfl
theorem t21 : Ty1 Yba.prog 21 := ⟨⟨_, Yba.underlying21, rfl⟩, c21⟩
theorem c22 : Yba.prog.cellsOf 22 = 1 := by kernel_rfl
theorem t22 : Ty1 Yba.prog 22 := ⟨⟨_, Yba.underlying22, rfl⟩, c22⟩
theorem c39 : Yba.prog.cellsOf 39 = 1 := by kernel_rfl
theorem t39 : Ty1 Yba.prog 39 := ⟨⟨_, Yba.underlying39, rfl⟩, c39⟩
theorem c40 : Yba.prog.cellsOf 40 = 1 := by kernel_rfl
theorem t40 : Ty1 Yba.prog 40 := ⟨⟨_, Yba.underlying40, rfl⟩, c40⟩
theorem c42 : Yba.prog.cellsOf 42 = 2 := by kernel_rfl
theorem ta42 : TyA Yba.prog 42 2 := ⟨⟨_, Yba.underlying42, rfl⟩, c42, by decide⟩
theorem c44 : Yba.prog.cellsOf 44 = 3 := by kernel_rfl
theorem ta44 : TyA Yba.prog 44 3 := ⟨⟨_, Yba.underlying44, rfl⟩, c44, by decide⟩
theorem c46 : Yba.prog.cellsOf 46 = 1 := by kernel_rfl
theorem t46 : Ty1 Yba.prog 46 := ⟨⟨_, Yba.underlying46, rfl⟩, c46⟩
theorem c48 : Yba.prog.cellsOf 48 = 5 := by kernel_rfl
theorem ta48 : TyA Yba.prog 48 5 := ⟨⟨_, Yba.underlying48, rfl⟩, c48, by decide⟩
theorem c50 : Yba.prog.cellsOf 50 = 1 := by kernel_rfl
theorem t50 : Ty1 Yba.prog 50 := ⟨⟨_, Yba.underlying50, rfl⟩, c50⟩
theorem c51 : Yba.prog.cellsOf 51 = 1 := by kernel_rfl
theorem t51 : Ty1 Yba.prog 51 := ⟨⟨_, Yba.underlying51, rfl⟩, c51⟩
theorem c54 : Yba.prog.cellsOf 54 = 2 := by kernel_rfl
theorem ta54 : TyA Yba.prog 54 2 := ⟨⟨_, Yba.underlying54, rfl⟩, c54, by decide⟩
theorem c55 : Yba.prog.cellsOf 55 = 1 := by kernel_rfl
theorem t55 : Ty1 Yba.prog 55 := ⟨⟨_, Yba.underlying55, rfl⟩, c55⟩
theorem c56 : Yba.prog.cellsOf 56 = 1 := by kernel_rfl
theorem t56 : Ty1 Yba.prog 56 := ⟨⟨_, Yba.underlying56, rfl⟩, c56⟩
theorem c57 : Yba.prog.cellsOf 57 = 1 := by kernel_rfl
theorem t57 : Ty1 Yba.prog 57 := ⟨⟨_, Yba.underlying57, rfl⟩, c57⟩
theorem c58 : Yba.prog.cellsOf 58 = 1 := by kernel_rfl
theorem t58 : Ty1 Yba.prog 58 := ⟨⟨_, Yba.underlying58, rfl⟩, c58⟩
theorem c60 : Yba.prog.cellsOf 60 = 9 := by kernel_rfl
theorem ta60 : TyA Yba.prog 60 9 := ⟨⟨_, Yba.underlying60, rfl⟩, c60, by decide⟩
theorem c74 : Yba.prog.cellsOf 74 = 1 := by kernel_rfl
theorem t74 : Ty1 Yba.prog 74 := ⟨⟨_, Yba.underlying74, rfl⟩, c74⟩
theorem c75 : Yba.prog.cellsOf 75 = 1 := by kernel_rfl
theorem t75 : Ty1 Yba.prog 75 := ⟨⟨_, Yba.underlying75, rfl⟩, c75⟩
theorem c77 : Yba.prog.cellsOf 77 = 3 := by kernel_rfl
theorem ta77 : TyA Yba.prog 77 3 := ⟨⟨_, Yba.underlying77, rfl⟩, c77, by decide⟩
theorem fl42_0 : Fld Yba.prog 42 0 0 := Fld.of (t := 40) (k := 1) Yba.underlying42 rfl (by kernel_rfl) (by decide)
theorem fl42_1 : Fld Yba.prog 42 1 1 := Fld.of (t := 21) (k := 1) Yba.underlying42 rfl (by kernel_rfl) (by decide)
theorem fl44_0 : Fld Yba.prog 44 0 0 := Fld.of (t := 42) (k := 2) Yba.underlying44 rfl (by kernel_rfl) (by decide)
theorem fl48_0 : Fld Yba.prog 48 0 0 := Fld.of (t := 46) (k := 1) Yba.underlying48 rfl (by kernel_rfl) (by decide)
theorem fl48_1 : Fld Yba.prog 48 1 1 := Fld.of (t := 22) (k := 1) Yba.underlying48 rfl (by kernel_rfl) (by decide)
theorem fl48_3 : Fld Yba.prog 48 3 3 := Fld.of (t := 21) (k := 1) Yba.underlying48 rfl (by kernel_rfl) (by decide)
theorem fl48_4 : Fld Yba.prog 48 4 4 := Fld.of (t := 21) (k := 1) Yba.underlying48 rfl (by kernel_rfl) (by decide)
theorem fl54_0 : Fld Yba.prog 54 0 0 := Fld.of (t := 21) (k := 1) Yba.underlying54 rfl (by kernel_rfl) (by decide)
theorem fl54_1 : Fld Yba.prog 54 1 1 := Fld.of (t := 21) (k := 1) Yba.underlying54 rfl (by kernel_rfl) (by decide)
theorem fl60_0 : Fld Yba.prog 60 0 0 := Fld.of (t := 56) (k := 1) Yba.underlying60 rfl (by kernel_rfl) (by decide)
theorem fl60_1 : Fld Yba.prog 60 1 1 := Fld.of (t := 56) (k := 1) Yba.underlying60 rfl (by kernel_rfl) (by decide)
theorem fl60_2 : Fld Yba.prog 60 2 2 := Fld.of (t := 57) (k := 1) Yba.underlying60 rfl (by kernel_rfl) (by decide)
theorem fl60_3 : Fld Yba.prog 60 3 3 := Fld.of (t := 58) (k := 1) Yba.underlying60 rfl (by kernel_rfl) (by decide)
theorem fl60_4 : Fld Yba.prog 60 4 4 := Fld.of (t := 22) (k := 1) Yba.underlying60 rfl (by kernel_rfl) (by decide)
theorem fl60_5 : Fld Yba.prog 60 5 5 := Fld.of (t := 22) (k := 1) Yba.underlying60 rfl (by kernel_rfl) (by decide)
theorem fl60_7 : Fld Yba.prog 60 7 7 := Fld.of (t := 22) (k := 1) Yba.underlying60 rfl (by kernel_rfl) (by decide)
theorem fl60_8 : Fld Yba.prog 60 8 8 := Fld.of (t := 22) (k := 1) Yba.underlying60 rfl (by kernel_rfl) (by decide)
theorem fl77_0 : Fld Yba.prog 77 0 0 := Fld.of (t := 5) (k := 1) Yba.underlying77 rfl (by kernel_rfl) (by decide)
theorem fl77_1 : Fld Yba.prog 77 1 1 := Fld.of (t := 5) (k := 1) Yba.underlying77 rfl (by kernel_rfl) (by decide)
theorem fl77_2 : Fld Yba.prog 77 2 2 := Fld.of (t := 21) (k := 1) Yba.underlying77 rfl (by kernel_rfl) (by decide)
theorem el22 : Elt Yba.prog 22 21 1 4 := Elt.of Yba.underlying22 (by kernel_rfl) (by decide)
theorem el39 : Elt Yba.prog 39 4 1 1 := Elt.of Yba.underlying39 (by kernel_rfl) (by decide)
theorem el40 : Elt Yba.prog 40 74 1 24 := Elt.of Yba.underlying40 (by kernel_rfl) (by decide)
theorem el46 : Elt Yba.prog 46 77 3 8 := Elt.of Yba.underlying46 (by kernel_rfl) (by decide)
theorem el58 : Elt Yba.prog 58 54 2 8 := Elt.of Yba.underlying58 (by kernel_rfl) (by decide)
theorem el74 : Elt Yba.prog 74 48 5 80 := Elt.of Yba.underlying74 (by kernel_rfl) (by decide)
theorem z3 : Zero Yba.prog 3 (.int .i64 0) := Zero.of (by kernel_rfl)
theorem z4 : Zero Yba.prog 4 (.bool false) := Zero.of (by kernel_rfl)
theorem z21 : Zero Yba.prog 21 (.int .i32 0) := Zero.of (by kernel_rfl)
theorem z22 : Zero Yba.prog 22 (.slice none 0 0) := Zero.of (by kernel_rfl)
theorem z44 : Zero Yba.prog 44 (.agg #[.slice none 0 0, .int .i32 0, .int .i32 0]) := Zero.of (by kernel_rfl)
theorem z48 : Zero Yba.prog 48 (.agg #[.slice none 0 0, .slice none 0 0, .slice none 0 0, .int .i32 0, .int .i32 0]) := Zero.of (by kernel_rfl)
theorem z54 : Zero Yba.prog 54 (.agg #[.int .i32 0, .int .i32 0]) := Zero.of (by kernel_rfl)
theorem z60 : Zero Yba.prog 60 (.agg #[.pointer none, .pointer none, .map none, .slice none 0 0, .slice none 0 0, .slice none 0 0, .slice none 0 0, .slice none 0 0, .slice none 0 0]) := Zero.of (by kernel_rfl)
theorem z74 : Zero Yba.prog 74 (.slice none 0 0) := Zero.of (by kernel_rfl)
theorem z77 : Zero Yba.prog 77 (.agg #[.int .u8 0, .int .u8 0, .int .i32 0]) := Zero.of (by kernel_rfl)
end Go.Proofs.Ybulkpgu
