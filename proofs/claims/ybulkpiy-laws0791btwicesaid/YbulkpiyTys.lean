/-
  What is known of this program's types (laid by a small script of ours off the program's own table).
-/
import Derived.Test.YbulkpiyFwDraw
namespace Go.Proofs.Ybulkpiy
open Go.Fw Go.RowKit

theorem c2 : Yba.prog.cellsOf 2 = 1 := by kernel_rfl
theorem t2 : Ty1 Yba.prog 2 := ⟨⟨_, Yba.underlying2, rfl⟩, c2⟩
theorem c3 : Yba.prog.cellsOf 3 = 1 := by kernel_rfl
theorem t3 : Ty1 Yba.prog 3 := ⟨⟨_, Yba.underlying3, rfl⟩, c3⟩
theorem c4 : Yba.prog.cellsOf 4 = 1 := by kernel_rfl
theorem t4 : Ty1 Yba.prog 4 := ⟨⟨_, Yba.underlying4, rfl⟩, c4⟩
theorem c5 : Yba.prog.cellsOf 5 = 1 := by kernel_rfl
theorem t5 : Ty1 Yba.prog 5 := ⟨⟨_, Yba.underlying5, rfl⟩, c5⟩
theorem c9 : Yba.prog.cellsOf 9 = 1 := by kernel_rfl
theorem t9 : Ty1 Yba.prog 9 := ⟨⟨_, Yba.underlying9, rfl⟩, c9⟩
theorem c23 : Yba.prog.cellsOf 23 = 1 := by kernel_rfl
theorem t23 : Ty1 Yba.prog 23 := ⟨⟨_, Yba.underlying23, rfl⟩, c23⟩
theorem c33 : Yba.prog.cellsOf 33 = 2 := by kernel_rfl
theorem ta33 : TyA Yba.prog 33 2 := ⟨⟨_, Yba.underlying33, rfl⟩, c33, by decide⟩
theorem c34 : Yba.prog.cellsOf 34 = 1 := by kernel_rfl
theorem t34 : Ty1 Yba.prog 34 := ⟨⟨_, Yba.underlying34, rfl⟩, c34⟩
theorem c41 : Yba.prog.cellsOf 41 = 1 := by kernel_rfl
theorem t41 : Ty1 Yba.prog 41 := ⟨⟨_, Yba.underlying41, rfl⟩, c41⟩
theorem c53 : Yba.prog.cellsOf 53 = 32 := by kernel_rfl
theorem ta53 : TyA Yba.prog 53 32 := ⟨⟨_, Yba.underlying53, rfl⟩, c53, by decide⟩
theorem c54 : Yba.prog.cellsOf 54 = 3 := by kernel_rfl
theorem ta54 : TyA Yba.prog 54 3 := ⟨⟨_, Yba.underlying54, rfl⟩, c54, by decide⟩
theorem c55 : Yba.prog.cellsOf 55 = 1 := by kernel_rfl
theorem t55 : Ty1 Yba.prog 55 := ⟨⟨_, Yba.underlying55, rfl⟩, c55⟩
theorem c57 : Yba.prog.cellsOf 57 = 1 := by kernel_rfl
theorem t57 : Ty1 Yba.prog 57 := ⟨⟨_, Yba.underlying57, rfl⟩, c57⟩
theorem c59 : Yba.prog.cellsOf 59 = 3 := by kernel_rfl
theorem ta59 : TyA Yba.prog 59 3 := ⟨⟨_, Yba.underlying59, rfl⟩, c59, by decide⟩
theorem c60 : Yba.prog.cellsOf 60 = 1 := by kernel_rfl
theorem t60 : Ty1 Yba.prog 60 := ⟨⟨_, Yba.underlying60, rfl⟩, c60⟩
theorem c63 : Yba.prog.cellsOf 63 = 1 := by kernel_rfl
theorem t63 : Ty1 Yba.prog 63 := ⟨⟨_, Yba.underlying63, rfl⟩, c63⟩
theorem c67 : Yba.prog.cellsOf 67 = 1 := by kernel_rfl
theorem t67 : Ty1 Yba.prog 67 := ⟨⟨_, Yba.underlying67, rfl⟩, c67⟩
theorem c70 : Yba.prog.cellsOf 70 = 14 := by kernel_rfl
theorem ta70 : TyA Yba.prog 70 14 := ⟨⟨_, Yba.underlying70, rfl⟩, c70, by decide⟩
theorem c72 : Yba.prog.cellsOf 72 = 2 := by kernel_rfl
theorem ta72 : TyA Yba.prog 72 2 := ⟨⟨_, Yba.underlying72, rfl⟩, c72, by decide⟩
theorem c74 : Yba.prog.cellsOf 74 = 8 := by kernel_rfl
theorem ta74 : TyA Yba.prog 74 8 := ⟨⟨_, Yba.underlying74, rfl⟩, c74, by decide⟩
theorem fl33_0 : Fld Yba.prog 33 0 0 := Fld.of (t := 5) (k := 1) Yba.underlying33 rfl (by kernel_rfl) (by decide)
theorem fl33_1 : Fld Yba.prog 33 1 1 := Fld.of (t := 23) (k := 1) Yba.underlying33 rfl (by kernel_rfl) (by decide)
theorem fl53_4 : Fld Yba.prog 53 4 8 := Fld.of (t := 41) (k := 1) Yba.underlying53 rfl (by kernel_rfl) (by decide)
theorem fl53_9 : Fld Yba.prog 53 9 13 := Fld.of (t := 34) (k := 1) Yba.underlying53 rfl (by kernel_rfl) (by decide)
theorem fl59_2 : Fld Yba.prog 59 2 2 := Fld.of (t := 57) (k := 1) Yba.underlying59 rfl (by kernel_rfl) (by decide)
theorem fl70_12 : Fld Yba.prog 70 12 12 := Fld.of (t := 67) (k := 1) Yba.underlying70 rfl (by kernel_rfl) (by decide)
theorem fl72_0 : Fld Yba.prog 72 0 0 := Fld.of (t := 3) (k := 1) Yba.underlying72 rfl (by kernel_rfl) (by decide)
theorem fl74_0 : Fld Yba.prog 74 0 0 := Fld.of (t := 63) (k := 1) Yba.underlying74 rfl (by kernel_rfl) (by decide)
theorem fl74_1 : Fld Yba.prog 74 1 1 := Fld.of (t := 55) (k := 1) Yba.underlying74 rfl (by kernel_rfl) (by decide)
theorem el22 : Elt Yba.prog 22 33 2 32 := Elt.of Yba.underlying22 (by kernel_rfl) (by decide)
theorem el23 : Elt Yba.prog 23 5 1 1 := Elt.of Yba.underlying23 (by kernel_rfl) (by decide)
theorem el26 : Elt Yba.prog 26 55 1 8 := Elt.of Yba.underlying26 (by kernel_rfl) (by decide)
theorem el27 : Elt Yba.prog 27 63 1 8 := Elt.of Yba.underlying27 (by kernel_rfl) (by decide)
theorem el41 : Elt Yba.prog 41 74 8 48 := Elt.of Yba.underlying41 (by kernel_rfl) (by decide)
theorem el57 : Elt Yba.prog 57 60 1 24 := Elt.of Yba.underlying57 (by kernel_rfl) (by decide)
theorem el60 : Elt Yba.prog 60 3 1 8 := Elt.of Yba.underlying60 (by kernel_rfl) (by decide)
theorem el67 : Elt Yba.prog 67 72 2 16 := Elt.of Yba.underlying67 (by kernel_rfl) (by decide)
theorem z33 : Zero Yba.prog 33 (.agg #[.int .u8 0, .slice none 0 0]) := Zero.of (by kernel_rfl)
theorem z53 : Zero Yba.prog 53 (.agg #[.pointer none, .slice none 0 0, .int .u64 0, .pointer none, .slice none 0 0, .int .u64 0, .bool false, .map none, .slice none 0 0, .int .i64 0, .bool false, .bool false, .int .u64 0, .map none, .int .i64 0, .int .i64 0, .pointer none, .int .u64 0, .int .i64 0, .int .i64 0, .slice none 0 0, .slice none 0 0, .slice none 0 0, .slice none 0 0, .slice none 0 0, .slice none 0 0, .slice none 0 0, .slice none 0 0, .slice none 0 0, .slice none 0 0, .slice none 0 0, .slice none 0 0]) := Zero.of (by kernel_rfl)
theorem z54 : Zero Yba.prog 54 (.agg #[.string ⟨#[]⟩, .string ⟨#[]⟩, .string ⟨#[]⟩]) := Zero.of (by kernel_rfl)
theorem z55 : Zero Yba.prog 55 (.pointer none) := Zero.of (by kernel_rfl)
theorem z59 : Zero Yba.prog 59 (.agg #[.slice none 0 0, .int .i64 0, .slice none 0 0]) := Zero.of (by kernel_rfl)
theorem z60 : Zero Yba.prog 60 (.slice none 0 0) := Zero.of (by kernel_rfl)
theorem z63 : Zero Yba.prog 63 (.pointer none) := Zero.of (by kernel_rfl)
theorem z70 : Zero Yba.prog 70 (.agg #[.pointer none, .int .u8 0, .bool false, .bool false, .int .u8 0, .int .i32 0, .int .i64 0, .int .i64 0, .string ⟨#[]⟩, .int .i64 0, .int .i64 0, .pointer none, .slice none 0 0, .pointer none]) := Zero.of (by kernel_rfl)
theorem z72 : Zero Yba.prog 72 (.agg #[.int .i64 0, .int .i64 0]) := Zero.of (by kernel_rfl)
theorem z74 : Zero Yba.prog 74 (.agg #[.pointer none, .pointer none, .bool false, .bool false, .bool false, .int .i64 0, .int .i64 0, .int .i64 0]) := Zero.of (by kernel_rfl)
end Go.Proofs.Ybulkpiy
