/-
  A few operations more: shifts and masks of an int32, literals of one struct.
-/
import Derived.Test.YbulkpguTys
namespace Go.Fw
open Go.RowKit
attribute [local simp] Go.Fw.stl_size Go.Fw.sto_size

section
variable {P : Program} {e : List (Nat × Value)} {w : World} {dst : Option Nat} {ty : TypeId} {pos : String} {af : Array Edge} {g : Option (Nat × Bool)}

theorem Run.shr14 {x y : Operand} {T U : TypeId} {a : Nat} (hx : ev e x = some (.int .i32 (a : Int))) (hy : ev e y = some (.int .u64 14)) :
    Run P e ⟨dst, .binOp .shr T x y U, ty, pos, af, g⟩ w (.ok (.value (.int .i32 ((a / 16384 : Nat) : Int))) w) := by
  intro ρ hρ
  have h : (a : Int).fdiv 16384 = ((a / 16384 : Nat) : Int) := by
    rw [Int.fdiv_eq_ediv_of_nonneg _ (by omega)]; omega
  simp [execOp, hρ _ _ hx, hρ _ _ hy, eqGuard, binOp, Op.shift, IntKind.bits, h]

theorem Run.and14 {x y : Operand} {T U : TypeId} {a : Nat} (hx : ev e x = some (.int .i32 (a : Int))) (hy : ev e y = some (.int .i32 16383)) (ha : a ≤ 1000000000) :
    Run P e ⟨dst, .binOp .and T x y U, ty, pos, af, g⟩ w (.ok (.value (.int .i32 ((a % 16384 : Nat) : Int))) w) := by
  intro ρ hρ
  have h1 : ((BitVec.ofInt 32 (a : Int)) &&& (BitVec.ofInt 32 16383)).toNat = a % 16384 := by
    rw [BitVec.toNat_and]
    have e1 : (BitVec.ofInt 32 (a : Int)).toNat = a := by
      rw [BitVec.toNat_ofInt]
      omega
    have e2 : (BitVec.ofInt 32 16383).toNat = 16383 := by decide
    rw [e1, e2]
    exact Nat.and_two_pow_sub_one_eq_mod a 14
  have h2 : IntKind.i32.wrap ((a % 16384 : Nat) : Int) = ((a % 16384 : Nat) : Int) := wrap_id32 (by omega) (by omega)
  have h3 : (Op.intBits .and .i32 (a : Int) 16383) = pure (.int .i32 ((a % 16384 : Nat) : Int)) := by
    show pure (Value.int .i32 (IntKind.i32.wrap (((BitVec.ofInt 32 (a : Int)) &&& (BitVec.ofInt 32 16383)).toNat : Int))) = _
    rw [h1, h2]
  simp [execOp, hρ _ _ hx, hρ _ _ hy, eqGuard, binOp, h3]

end
end Go.Fw
namespace Go.Proofs.Ybulkpgu
open Go.Fw Go.RowKit

theorem lit74 {w : World} {a b c d e : Value} : (Instr.buildSlice 74 1 #[(0, .agg #[a, b, c, d, e])]).run Yba.prog w = .ok (.slice (some ⟨w.heap.size, 0, none⟩) 1 1) (w.alloc (.cells [a, b, c, d, e].toArray 48)) := by kernel_rfl
theorem lit46 {w : World} {a b c : Value} : (Instr.buildSlice 46 1 #[(0, .agg #[a, b, c])]).run Yba.prog w = .ok (.slice (some ⟨w.heap.size, 0, none⟩) 1 1) (w.alloc (.cells [a, b, c].toArray 77)) := by kernel_rfl
theorem lit58 {w : World} {a b : Value} : (Instr.buildSlice 58 1 #[(0, .agg #[a, b])]).run Yba.prog w = .ok (.slice (some ⟨w.heap.size, 0, none⟩) 1 1) (w.alloc (.cells [a, b].toArray 54)) := by kernel_rfl
theorem build77 {w : World} {t : Int} : (Instr.build 77 #[(0, .int .u8 0), (1, .int .u8 255), (2, .int .i32 t)]).run Yba.prog w = .ok (.agg #[.int .u8 0, .int .u8 255, .int .i32 t]) w := by kernel_rfl
theorem build48 {w : World} : (Instr.build 48 #[]).run Yba.prog w = .ok (.agg #[.slice none 0 0, .slice none 0 0, .slice none 0 0, .int .i32 0, .int .i32 0]) w := by kernel_rfl
theorem build54 {w : World} {x y : Int} : (Instr.build 54 #[(0, .int .i32 x), (1, .int .i32 y)]).run Yba.prog w = .ok (.agg #[.int .i32 x, .int .i32 y]) w := by kernel_rfl
end Go.Proofs.Ybulkpgu
