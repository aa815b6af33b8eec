/-
  zzs0791bbuild's closed facts: the struct literals, the map's keys.
-/
import Derived.Test.YbulkpiyCheck
namespace Go.Proofs.Ybulkpiy
open Go.Fw Go.RowKit
attribute [local simp] Go.Fw.stl_size Go.Fw.sto_size

def stCells (fv : Value) (bm : Nat) : List Value :=
  [.pointer none, .slice none 0 0, .int .u64 0, .pointer none, .slice none 0 0, .int .u64 0, .bool false, .map none, fv, .int .i64 (-9223372036854775808), .bool false, .bool false, .int .u64 0, .map (some bm),
   .int .i64 0, .int .i64 0, .pointer none, .int .u64 0, .int .i64 0, .int .i64 0, .slice none 0 0, .slice none 0 0, .slice none 0 0, .slice none 0 0, .slice none 0 0, .slice none 0 0, .slice none 0 0, .slice none 0 0, .slice none 0 0, .slice none 0 0, .slice none 0 0, .slice none 0 0]

theorem build53 (w : World) (bm : Nat) : (Instr.build 53 #[(5, .int .i64 (-9223372036854775808)), (9, .map (some bm))]).run Yba.prog w = .ok (.agg (stCells (.slice none 0 0) bm).toArray) w := by kernel_rfl
theorem build54 (w : World) : (Instr.build 54 #[(0, .string ⟨#[97]⟩), (1, .string ⟨#[98]⟩), (2, .string ⟨#[99]⟩)]).run Yba.prog w = .ok (.agg [.string ⟨#[97]⟩, .string ⟨#[98]⟩, .string ⟨#[99]⟩].toArray) w := by kernel_rfl
theorem build59 (w : World) : (Instr.build 59 #[(1, .int .i64 (-9223372036854775808))]).run Yba.prog w = .ok (.agg (mkl (.slice none 0 0)).toArray) w := by kernel_rfl
theorem build62 (w : World) (s : ByteArray) : (Instr.build 62 #[(0, .string s), (1, .int .i64 1)]).run Yba.prog w = .ok (.agg #[.string s, .int .i64 1]) w := by kernel_rfl
def recCells (sv : Value) : List Value :=
  [.pointer none, .int .u8 0, .bool false, .bool false, .int .u8 0, .int .i32 0, .int .i64 0, .int .i64 0, .string ⟨#[]⟩, .int .i64 0, .int .i64 0, .pointer none, sv, .pointer none]
theorem build70 (w : World) : (Instr.build 70 #[]).run Yba.prog w = .ok (.agg (recCells (.slice none 0 0)).toArray) w := by kernel_rfl
def folCells (r m : Addr) : List Value := [.pointer (some r), .pointer (some m), .bool false, .bool false, .bool false, .int .i64 0, .int .i64 0, .int .i64 0]
theorem build74 (w : World) (r m : Addr) : (Instr.build 74 #[(0, .pointer (some r)), (1, .pointer (some m))]).run Yba.prog w = .ok (.agg (folCells r m).toArray) w := by kernel_rfl
theorem bslice41 (w : World) (r m : Addr) : (Instr.buildSlice 41 1 #[(0, .agg (folCells r m).toArray)]).run Yba.prog w = .ok (.slice (some ⟨w.heap.size, 0, none⟩) 1 1) (w.alloc (.cells (folCells r m).toArray 74)) := by kernel_rfl
theorem bslice60 (w : World) (x y : Int) : (Instr.buildSlice 60 2 #[(0, .int .i64 x), (1, .int .i64 y)]).run Yba.prog w = .ok (.slice (some ⟨w.heap.size, 0, none⟩) 2 2) (w.alloc (.cells [.int .i64 x, .int .i64 y].toArray 3)) := by kernel_rfl

theorem chk0 (w : World) (s : ByteArray) : (Instr.checkKey false 10000 62 (.agg #[.string s, .int .i64 1])).run Yba.prog w = .ok () w := by kernel_rfl

def ents (bs : Nat → Nat) (k : Nat) : List MapEntry := (List.range k).map (entryOf bs)

theorem find0 (w : World) (bs : Nat → Nat) : (Instr.findKey 62 (keyOf (97 + (0 : Nat).toUInt8)) (ents bs 0)).run Yba.prog w = .ok none w := by kernel_rfl
theorem find1 (w : World) (bs : Nat → Nat) : (Instr.findKey 62 (keyOf (97 + (1 : Nat).toUInt8)) (ents bs 1)).run Yba.prog w = .ok none w := by kernel_rfl
theorem find2 (w : World) (bs : Nat → Nat) : (Instr.findKey 62 (keyOf (97 + (2 : Nat).toUInt8)) (ents bs 2)).run Yba.prog w = .ok none w := by kernel_rfl
end Go.Proofs.Ybulkpiy
