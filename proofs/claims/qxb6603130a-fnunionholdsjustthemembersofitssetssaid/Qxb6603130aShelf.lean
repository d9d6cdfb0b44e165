import Derived.Shelf.Sort.Plain
import Derived.Ground.Names2Prog
import Derived.Shelf.Slices.CompactI
import Derived.Shelf.Slices.In.SortNone
import Derived.Test.Qxb6603130aProg
namespace Go.Proofs
open Go.Shelf
def Try.lays189_ren : Go.Shelf.Ren := ⟨fun | 189 => 47 | 125 => 53 | 257 => 52 | 128 => 65 | 129 => 66 | 294 => 57 | 295 => 58 | 296 => 59 | 297 => 60 | 298 => 61 | 299 => 62 | 216 => 54 | 300 => 63 | 301 => 64 | 328 => 69 | 329 => 70 | 330 => 71 | 331 => 72 | 332 => 73 | 215 => 67 | 343 => 74 | n => n, fun | 28 => 28 | 3 => 3 | 46 => 63 | 0 => 0 | 51 => 87 | 53 => 62 | 4 => 4 | 183 => 81 | 182 => 80 | 131 => 72 | 5 => 5 | 9 => 9 | 218 => 89 | 222 => 93 | 228 => 95 | 229 => 96 | n => n, fun | n => n⟩
theorem Try.lays189 : Go.Proofs.Lays.n189 Try.prog Try.lays189_ren := {
  mixed := by kernel_rfl
  f125 := Try.func53.trans (congrArg some (by kernel_rfl))
  f128 := Try.func65.trans (congrArg some (by kernel_rfl))
  f129 := Try.func66.trans (congrArg some (by kernel_rfl))
  f189 := Try.func47.trans (congrArg some (by kernel_rfl))
  f215 := Try.func67.trans (congrArg some (by kernel_rfl))
  f216 := Try.func54.trans (congrArg some (by kernel_rfl))
  f257 := Try.func52.trans (congrArg some (by kernel_rfl))
  f294 := Try.func57.trans (congrArg some (by kernel_rfl))
  f295 := Try.func58.trans (congrArg some (by kernel_rfl))
  f296 := Try.func59.trans (congrArg some (by kernel_rfl))
  f297 := Try.func60.trans (congrArg some (by kernel_rfl))
  f298 := Try.func61.trans (congrArg some (by kernel_rfl))
  f299 := Try.func62.trans (congrArg some (by kernel_rfl))
  f300 := Try.func63.trans (congrArg some (by kernel_rfl))
  f301 := Try.func64.trans (congrArg some (by kernel_rfl))
  f328 := Try.func69.trans (congrArg some (by kernel_rfl))
  f329 := Try.func70.trans (congrArg some (by kernel_rfl))
  f330 := Try.func71.trans (congrArg some (by kernel_rfl))
  f331 := Try.func72.trans (congrArg some (by kernel_rfl))
  f332 := Try.func73.trans (congrArg some (by kernel_rfl))
  f343 := Try.func74.trans (congrArg some (by kernel_rfl))
  t0 := Try.underlying0
  a0 := Try.isAgg0
  z0 := Try.sizeOf0
  v0 := Try.zeroValue0
  t3 := Try.underlying3
  a3 := Try.isAgg3
  z3 := Try.sizeOf3
  v3 := Try.zeroValue3
  t4 := Try.underlying4
  a4 := Try.isAgg4
  z4 := Try.sizeOf4
  v4 := Try.zeroValue4
  t5 := Try.underlying5
  a5 := Try.isAgg5
  z5 := Try.sizeOf5
  v5 := Try.zeroValue5
  t9 := Try.underlying9
  a9 := Try.isAgg9
  z9 := Try.sizeOf9
  v9 := Try.zeroValue9
  t28 := Try.underlying28
  a28 := Try.isAgg28
  z28 := Try.sizeOf28
  v28 := Try.zeroValue28
  t46 := Try.underlying63
  a46 := Try.isAgg63
  z46 := Try.sizeOf63
  v46 := Try.zeroValue63
  t51 := Try.underlying87
  a51 := Try.isAgg87
  z51 := Try.sizeOf87
  v51 := Try.zeroValue87
  t53 := Try.underlying62
  a53 := Try.isAgg62
  z53 := Try.sizeOf62
  v53 := Try.zeroValue62
  t131 := Try.underlying72
  a131 := Try.isAgg72
  z131 := Try.sizeOf72
  v131 := Try.zeroValue72
  t182 := Try.underlying80
  a182 := Try.isAgg80
  z182 := Try.sizeOf80
  v182 := Try.zeroValue80
  t183 := Try.underlying81
  a183 := Try.isAgg81
  z183 := Try.sizeOf81
  v183 := Try.zeroValue81
  t218 := Try.underlying89
  a218 := Try.isAgg89
  z218 := Try.sizeOf89
  v218 := Try.zeroValue89
  t222 := Try.underlying93
  a222 := Try.isAgg93
  z222 := Try.sizeOf93
  v222 := Try.zeroValue93
  t228 := Try.underlying95
  a228 := Try.isAgg95
  z228 := Try.sizeOf95
  v228 := Try.zeroValue95
  t229 := Try.underlying96
  a229 := Try.isAgg96
  z229 := Try.sizeOf96
  v229 := Try.zeroValue96 }
open Go.RowKit Go.Sort in
theorem Try.slices_Sort_int (blk off cap : Nat) (zs : List Int) (w : World) (hH : Holds (Value.int .i64) w blk off zs.toArray) (hblk : blk < w.heap.size) (hsz : zs.length < 4611686018427387904) :
    Calls Try.prog 47 #[.slice (some ⟨blk, off, none⟩) zs.length cap] w fun e w' =>
      e = .returned (.tuple #[]) ∧ ∃ n os, w' = grow (putRow (Value.int .i64) (Sort.ahead w n) blk off (zs.mergeSort fun x y => decide (x ≤ y)).toArray) os := Any.slices_Sort_int Try.lays189 blk off cap zs w hH hblk hsz
def Try.laysNm220_ren : Go.Shelf.Ren := ⟨fun | 20 => 48 | n => n, fun | 22 => 28 | 3 => 3 | 4 => 4 | 0 => 0 | n => n, fun | n => n⟩
theorem Try.laysNm220 : Go.Proofs.Lays2.n20 Try.prog Try.laysNm220_ren := {
  mixed := by kernel_rfl
  f20 := Try.func48.trans (congrArg some (by kernel_rfl))
  t0 := Try.underlying0
  a0 := Try.isAgg0
  z0 := Try.sizeOf0
  v0 := Try.zeroValue0
  t3 := Try.underlying3
  a3 := Try.isAgg3
  z3 := Try.sizeOf3
  v3 := Try.zeroValue3
  t4 := Try.underlying4
  a4 := Try.isAgg4
  z4 := Try.sizeOf4
  v4 := Try.zeroValue4
  t22 := Try.underlying28
  a22 := Try.isAgg28
  z22 := Try.sizeOf28
  v22 := Try.zeroValue28
  i3 := by kernel_rfl }
open Go.RowKit Go.Lib Go.Sort in
theorem Try.slices_Compact_int (blk off cap : Nat) (zs : List Int) (w : World) (hH : Holds (Value.int .i64) w blk off zs.toArray) (hsz : zs.length ≤ 9223372036854775807) (hcap : zs.length ≤ cap) :
    Calls Try.prog 48 #[.slice (some ⟨blk, off, none⟩) zs.length cap] w fun e w' => e = .returned (.slice (some ⟨blk, off, none⟩) (Lib.compact zs).length cap) ∧ ∃ q, w' = putRow (Value.int .i64) (Sort.ahead w q) blk off (Lib.compact zs ++ List.replicate (zs.length - (Lib.compact zs).length) 0).toArray := Any.slices_Compact_int Try.laysNm220 blk off cap zs w hH hsz hcap
open Go.RowKit Go.Lib Go.Sort in
theorem Try.slices_Compact_int_empty (a : Option Addr) (cap : Nat) (w : World) :
    Calls Try.prog 48 #[.slice a 0 cap] w fun e w' => e = .returned (.slice a 0 cap) ∧ w' = w := Any.slices_Compact_int_empty Try.laysNm220 a cap w
open Go.RowKit Go.Sort in
theorem Try.slices_Sort_int_none (p : Option Addr) (cap : Nat) (w : World) :
    Calls Try.prog 47 #[.slice p 0 cap] w fun e w' => e = .returned (.tuple #[]) ∧ w' = w := Any.slices_Sort_int_none Try.lays189 p cap w
end Go.Proofs
