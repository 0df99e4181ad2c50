/- Contracts of Go's library, laid at this seat's translation by the kit's own tools (lay-shelf.mjs, lay-plain.mjs); cut to those that are used here. -/
import Derived.Shelf.Small.Bits
import Derived.Shelf.Small.Wraps
import Derived.Shelf.Strconv.Itoa0
import Derived.Shelf.Sort.Plain
import Derived.Ground.Names2Prog
import Derived.Shelf.Slices.SearchI
import Derived.Shelf.Slices.In.SortNone
import Derived.Test.YtnjnphoidjachaaProg
namespace Go.Proofs
open Go.Shelf
def Try.lays189_ren : Go.Shelf.Ren := ⟨fun | 189 => 37 | 125 => 48 | 257 => 50 | 128 => 60 | 129 => 61 | 294 => 62 | 295 => 63 | 296 => 64 | 297 => 65 | 298 => 66 | 299 => 67 | 216 => 68 | 300 => 69 | 301 => 70 | 328 => 77 | 329 => 73 | 330 => 74 | 331 => 78 | 332 => 79 | 215 => 80 | 343 => 83 | n => n, fun | 28 => 25 | 3 => 3 | 46 => 55 | 0 => 0 | 51 => 68 | 53 => 70 | 4 => 4 | 183 => 61 | 182 => 60 | 131 => 65 | 5 => 5 | 9 => 9 | 218 => 77 | 222 => 81 | 228 => 86 | 229 => 87 | n => n, fun | n => n⟩

theorem Try.lays189 : Go.Proofs.Lays.n189 Try.prog Try.lays189_ren := {
  mixed := by kernel_rfl
  f125 := Try.func48.trans (congrArg some (by kernel_rfl))
  f128 := Try.func60.trans (congrArg some (by kernel_rfl))
  f129 := Try.func61.trans (congrArg some (by kernel_rfl))
  f189 := Try.func37.trans (congrArg some (by kernel_rfl))
  f215 := Try.func80.trans (congrArg some (by kernel_rfl))
  f216 := Try.func68.trans (congrArg some (by kernel_rfl))
  f257 := Try.func50.trans (congrArg some (by kernel_rfl))
  f294 := Try.func62.trans (congrArg some (by kernel_rfl))
  f295 := Try.func63.trans (congrArg some (by kernel_rfl))
  f296 := Try.func64.trans (congrArg some (by kernel_rfl))
  f297 := Try.func65.trans (congrArg some (by kernel_rfl))
  f298 := Try.func66.trans (congrArg some (by kernel_rfl))
  f299 := Try.func67.trans (congrArg some (by kernel_rfl))
  f300 := Try.func69.trans (congrArg some (by kernel_rfl))
  f301 := Try.func70.trans (congrArg some (by kernel_rfl))
  f328 := Try.func77.trans (congrArg some (by kernel_rfl))
  f329 := Try.func73.trans (congrArg some (by kernel_rfl))
  f330 := Try.func74.trans (congrArg some (by kernel_rfl))
  f331 := Try.func78.trans (congrArg some (by kernel_rfl))
  f332 := Try.func79.trans (congrArg some (by kernel_rfl))
  f343 := Try.func83.trans (congrArg some (by kernel_rfl))
  t0 := Try.underlying0
  a0 := Try.isAgg0
  z0 := Try.sizeOf0
  v0 := Try.zeroValue0
  t3 := Try.underlying3
  a3 := Try.isAgg3
  z3 := Try.sizeOf3
  v3 := Try.zeroValue3
  t4 := Try.underlying4
  a4 := Try.isAgg4
  z4 := Try.sizeOf4
  v4 := Try.zeroValue4
  t5 := Try.underlying5
  a5 := Try.isAgg5
  z5 := Try.sizeOf5
  v5 := Try.zeroValue5
  t9 := Try.underlying9
  a9 := Try.isAgg9
  z9 := Try.sizeOf9
  v9 := Try.zeroValue9
  t28 := Try.underlying25
  a28 := Try.isAgg25
  z28 := Try.sizeOf25
  v28 := Try.zeroValue25
  t46 := Try.underlying55
  a46 := Try.isAgg55
  z46 := Try.sizeOf55
  v46 := Try.zeroValue55
  t51 := Try.underlying68
  a51 := Try.isAgg68
  z51 := Try.sizeOf68
  v51 := Try.zeroValue68
  t53 := Try.underlying70
  a53 := Try.isAgg70
  z53 := Try.sizeOf70
  v53 := Try.zeroValue70
  t131 := Try.underlying65
  a131 := Try.isAgg65
  z131 := Try.sizeOf65
  v131 := Try.zeroValue65
  t182 := Try.underlying60
  a182 := Try.isAgg60
  z182 := Try.sizeOf60
  v182 := Try.zeroValue60
  t183 := Try.underlying61
  a183 := Try.isAgg61
  z183 := Try.sizeOf61
  v183 := Try.zeroValue61
  t218 := Try.underlying77
  a218 := Try.isAgg77
  z218 := Try.sizeOf77
  v218 := Try.zeroValue77
  t222 := Try.underlying81
  a222 := Try.isAgg81
  z222 := Try.sizeOf81
  v222 := Try.zeroValue81
  t228 := Try.underlying86
  a228 := Try.isAgg86
  z228 := Try.sizeOf86
  v228 := Try.zeroValue86
  t229 := Try.underlying87
  a229 := Try.isAgg87
  z229 := Try.sizeOf87
  v229 := Try.zeroValue87 }

open Go.Sort Go.RowKit in
theorem Try.slices_Sort_int (blk off cap : Nat) (zs : List Int) (w : World) (hH : Holds (Value.int .i64) w blk off zs.toArray) (hblk : blk < w.heap.size) (hsz : zs.length < 4611686018427387904) :
    Calls Try.prog 37 #[.slice (some ⟨blk, off, none⟩) zs.length cap] w fun e w' =>
      e = .returned (.tuple #[]) ∧ ∃ n os, w' = grow (putRow (Value.int .i64) (Sort.ahead w n) blk off (zs.mergeSort fun x y => decide (x ≤ y)).toArray) os := Any.slices_Sort_int Try.lays189 blk off cap zs w hH hblk hsz

open Go.RowKit Go.Sort in
theorem Try.slices_Sort_int_none (p : Option Addr) (cap : Nat) (w : World) :
    Calls Try.prog 37 #[.slice p 0 cap] w fun e w' => e = .returned (.tuple #[]) ∧ w' = w := Any.slices_Sort_int_none Try.lays189 p cap w
end Go.Proofs
