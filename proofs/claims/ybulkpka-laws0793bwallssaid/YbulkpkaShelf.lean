/-
  The library's slices.Sort and slices.Compact at []int, by the shelf's contracts: laid for this program by the kit's lay-shelf.mjs and lay-plain.mjs (what this program does not need is struck).
-/
import Derived.Shelf.Sort.Plain
import Derived.Ground.Names2Prog
import Derived.Shelf.Slices.CompactI
import Derived.Shelf.Slices.In.SortNone
import Derived.Sort.OwnSortedInts
import Derived.Test.YbulkpkaRows
namespace Go.Proofs.Ybulkpka
open Go.Shelf
def Yba.lays189_ren : Go.Shelf.Ren := ⟨fun | 189 => 11 | 125 => 14 | 257 => 13 | 128 => 24 | 129 => 25 | 294 => 15 | 295 => 16 | 296 => 17 | 297 => 18 | 298 => 19 | 299 => 20 | 216 => 21 | 300 => 22 | 301 => 23 | 328 => 26 | 329 => 27 | 330 => 28 | 331 => 29 | 332 => 30 | 215 => 31 | 343 => 32 | n => n, fun | 28 => 29 | 3 => 3 | 46 => 41 | 0 => 0 | 51 => 52 | 53 => 54 | 4 => 4 | 183 => 44 | 182 => 43 | 131 => 49 | 5 => 5 | 9 => 9 | 218 => 55 | 222 => 59 | 228 => 62 | 229 => 63 | n => n, fun | n => n⟩
theorem Yba.lays189 : Go.Proofs.Lays.n189 Yba.prog Yba.lays189_ren := {
  mixed := by kernel_rfl
  f125 := Yba.func14.trans (congrArg some (by kernel_rfl))
  f128 := Yba.func24.trans (congrArg some (by kernel_rfl))
  f129 := Yba.func25.trans (congrArg some (by kernel_rfl))
  f189 := Yba.func11.trans (congrArg some (by kernel_rfl))
  f215 := Yba.func31.trans (congrArg some (by kernel_rfl))
  f216 := Yba.func21.trans (congrArg some (by kernel_rfl))
  f257 := Yba.func13.trans (congrArg some (by kernel_rfl))
  f294 := Yba.func15.trans (congrArg some (by kernel_rfl))
  f295 := Yba.func16.trans (congrArg some (by kernel_rfl))
  f296 := Yba.func17.trans (congrArg some (by kernel_rfl))
  f297 := Yba.func18.trans (congrArg some (by kernel_rfl))
  f298 := Yba.func19.trans (congrArg some (by kernel_rfl))
  f299 := Yba.func20.trans (congrArg some (by kernel_rfl))
  f300 := Yba.func22.trans (congrArg some (by kernel_rfl))
  f301 := Yba.func23.trans (congrArg some (by kernel_rfl))
  f328 := Yba.func26.trans (congrArg some (by kernel_rfl))
  f329 := Yba.func27.trans (congrArg some (by kernel_rfl))
  f330 := Yba.func28.trans (congrArg some (by kernel_rfl))
  f331 := Yba.func29.trans (congrArg some (by kernel_rfl))
  f332 := Yba.func30.trans (congrArg some (by kernel_rfl))
  f343 := Yba.func32.trans (congrArg some (by kernel_rfl))
  t0 := Yba.underlying0
  a0 := Yba.isAgg0
  z0 := Yba.sizeOf0
  v0 := Yba.zeroValue0
  t3 := Yba.underlying3
  a3 := Yba.isAgg3
  z3 := Yba.sizeOf3
  v3 := Yba.zeroValue3
  t4 := Yba.underlying4
  a4 := Yba.isAgg4
  z4 := Yba.sizeOf4
  v4 := Yba.zeroValue4
  t5 := Yba.underlying5
  a5 := Yba.isAgg5
  z5 := Yba.sizeOf5
  v5 := Yba.zeroValue5
  t9 := Yba.underlying9
  a9 := Yba.isAgg9
  z9 := Yba.sizeOf9
  v9 := Yba.zeroValue9
  t28 := Yba.underlying29
  a28 := Yba.isAgg29
  z28 := Yba.sizeOf29
  v28 := Yba.zeroValue29
  t46 := Yba.underlying41
  a46 := Yba.isAgg41
  z46 := Yba.sizeOf41
  v46 := Yba.zeroValue41
  t51 := Yba.underlying52
  a51 := Yba.isAgg52
  z51 := Yba.sizeOf52
  v51 := Yba.zeroValue52
  t53 := Yba.underlying54
  a53 := Yba.isAgg54
  z53 := Yba.sizeOf54
  v53 := Yba.zeroValue54
  t131 := Yba.underlying49
  a131 := Yba.isAgg49
  z131 := Yba.sizeOf49
  v131 := Yba.zeroValue49
  t182 := Yba.underlying43
  a182 := Yba.isAgg43
  z182 := Yba.sizeOf43
  v182 := Yba.zeroValue43
  t183 := Yba.underlying44
  a183 := Yba.isAgg44
  z183 := Yba.sizeOf44
  v183 := Yba.zeroValue44
  t218 := Yba.underlying55
  a218 := Yba.isAgg55
  z218 := Yba.sizeOf55
  v218 := Yba.zeroValue55
  t222 := Yba.underlying59
  a222 := Yba.isAgg59
  z222 := Yba.sizeOf59
  v222 := Yba.zeroValue59
  t228 := Yba.underlying62
  a228 := Yba.isAgg62
  z228 := Yba.sizeOf62
  v228 := Yba.zeroValue62
  t229 := Yba.underlying63
  a229 := Yba.isAgg63
  z229 := Yba.sizeOf63
  v229 := Yba.zeroValue63 }
open Go.Sort Go.RowKit in
theorem Yba.slices_Sort_int (blk off cap : Nat) (zs : List Int) (w : World) (hH : Holds (Value.int .i64) w blk off zs.toArray) (hblk : blk < w.heap.size) (hsz : zs.length < 4611686018427387904) :
    Calls Yba.prog 11 #[.slice (some ⟨blk, off, none⟩) zs.length cap] w fun e w' =>
      e = .returned (.tuple #[]) ∧ ∃ n os, w' = grow (putRow (Value.int .i64) (Sort.ahead w n) blk off (zs.mergeSort fun x y => decide (x ≤ y)).toArray) os := Any.slices_Sort_int Yba.lays189 blk off cap zs w hH hblk hsz
def Yba.laysNm220_ren : Go.Shelf.Ren := ⟨fun | 20 => 12 | n => n, fun | 22 => 29 | 3 => 3 | 4 => 4 | 0 => 0 | n => n, fun | n => n⟩
theorem Yba.laysNm220 : Go.Proofs.Lays2.n20 Yba.prog Yba.laysNm220_ren := {
  mixed := by kernel_rfl
  f20 := Yba.func12.trans (congrArg some (by kernel_rfl))
  t0 := Yba.underlying0
  a0 := Yba.isAgg0
  z0 := Yba.sizeOf0
  v0 := Yba.zeroValue0
  t3 := Yba.underlying3
  a3 := Yba.isAgg3
  z3 := Yba.sizeOf3
  v3 := Yba.zeroValue3
  t4 := Yba.underlying4
  a4 := Yba.isAgg4
  z4 := Yba.sizeOf4
  v4 := Yba.zeroValue4
  t22 := Yba.underlying29
  a22 := Yba.isAgg29
  z22 := Yba.sizeOf29
  v22 := Yba.zeroValue29
  i3 := by kernel_rfl }
open Go.RowKit Go.Lib Go.Sort in
open Go.RowKit Go.Lib Go.Sort in
theorem Yba.slices_Compact_int (blk off cap : Nat) (zs : List Int) (w : World) (hH : Holds (Value.int .i64) w blk off zs.toArray) (hsz : zs.length ≤ 9223372036854775807) (hcap : zs.length ≤ cap) :
    Calls Yba.prog 12 #[.slice (some ⟨blk, off, none⟩) zs.length cap] w fun e w' => e = .returned (.slice (some ⟨blk, off, none⟩) (Lib.compact zs).length cap) ∧ ∃ q, w' = putRow (Value.int .i64) (Sort.ahead w q) blk off (Lib.compact zs ++ List.replicate (zs.length - (Lib.compact zs).length) 0).toArray := Any.slices_Compact_int Yba.laysNm220 blk off cap zs w hH hsz hcap
open Go.RowKit Go.Lib Go.Sort in
theorem Yba.slices_Compact_int_empty (a : Option Addr) (cap : Nat) (w : World) :
    Calls Yba.prog 12 #[.slice a 0 cap] w fun e w' => e = .returned (.slice a 0 cap) ∧ w' = w := Any.slices_Compact_int_empty Yba.laysNm220 a cap w
open Go.RowKit Go.Sort in
theorem Yba.slices_Sort_int_none (p : Option Addr) (cap : Nat) (w : World) :
    Calls Yba.prog 11 #[.slice p 0 cap] w fun e w' => e = .returned (.tuple #[]) ∧ w' = w := Any.slices_Sort_int_none Yba.lays189 p cap w
end Go.Proofs.Ybulkpka
