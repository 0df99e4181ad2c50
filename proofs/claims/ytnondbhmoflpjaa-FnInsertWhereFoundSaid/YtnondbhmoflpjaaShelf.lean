/- Contracts of Go's library, laid at this seat's translation by the kit's own tools (lay-shelf.mjs, lay-plain.mjs); cut to those that are used here. -/
import Derived.Shelf.Small.Bits
import Derived.Shelf.Small.Wraps
import Derived.Shelf.Strconv.Itoa0
import Derived.Shelf.Sort.Plain
import Derived.Shelf.Slices.Turned
import Derived.Shelf.Slices.Reverse
import Derived.Ground.Names2Prog
import Derived.Shelf.Slices.CompactI
import Derived.Shelf.Slices.SearchI
import Derived.Shelf.Slices.Cells
import Derived.Shelf.Slices.In.SortNone
import Derived.Shelf.Slices.Empties
import Derived.Test.YtnondbhmoflpjaaProg
namespace Go.Proofs
open Go.Shelf
def Try.lays189_ren : Go.Shelf.Ren := ⟨fun | 189 => 35 | 125 => 48 | 257 => 47 | 128 => 61 | 129 => 62 | 294 => 53 | 295 => 54 | 296 => 55 | 297 => 56 | 298 => 57 | 299 => 58 | 216 => 49 | 300 => 59 | 301 => 60 | 328 => 65 | 329 => 66 | 330 => 67 | 331 => 68 | 332 => 69 | 215 => 63 | 343 => 70 | n => n, fun | 28 => 22 | 3 => 3 | 46 => 50 | 0 => 0 | 51 => 61 | 53 => 63 | 4 => 4 | 183 => 56 | 182 => 55 | 131 => 34 | 5 => 5 | 9 => 9 | 218 => 64 | 222 => 68 | 228 => 70 | 229 => 43 | n => n, fun | n => n⟩

theorem Try.lays189 : Go.Proofs.Lays.n189 Try.prog Try.lays189_ren := {
  mixed := by kernel_rfl
  f125 := Try.func48.trans (congrArg some (by kernel_rfl))
  f128 := Try.func61.trans (congrArg some (by kernel_rfl))
  f129 := Try.func62.trans (congrArg some (by kernel_rfl))
  f189 := Try.func35.trans (congrArg some (by kernel_rfl))
  f215 := Try.func63.trans (congrArg some (by kernel_rfl))
  f216 := Try.func49.trans (congrArg some (by kernel_rfl))
  f257 := Try.func47.trans (congrArg some (by kernel_rfl))
  f294 := Try.func53.trans (congrArg some (by kernel_rfl))
  f295 := Try.func54.trans (congrArg some (by kernel_rfl))
  f296 := Try.func55.trans (congrArg some (by kernel_rfl))
  f297 := Try.func56.trans (congrArg some (by kernel_rfl))
  f298 := Try.func57.trans (congrArg some (by kernel_rfl))
  f299 := Try.func58.trans (congrArg some (by kernel_rfl))
  f300 := Try.func59.trans (congrArg some (by kernel_rfl))
  f301 := Try.func60.trans (congrArg some (by kernel_rfl))
  f328 := Try.func65.trans (congrArg some (by kernel_rfl))
  f329 := Try.func66.trans (congrArg some (by kernel_rfl))
  f330 := Try.func67.trans (congrArg some (by kernel_rfl))
  f331 := Try.func68.trans (congrArg some (by kernel_rfl))
  f332 := Try.func69.trans (congrArg some (by kernel_rfl))
  f343 := Try.func70.trans (congrArg some (by kernel_rfl))
  t0 := Try.underlying0
  a0 := Try.isAgg0
  z0 := Try.sizeOf0
  v0 := Try.zeroValue0
  t3 := Try.underlying3
  a3 := Try.isAgg3
  z3 := Try.sizeOf3
  v3 := Try.zeroValue3
  t4 := Try.underlying4
  a4 := Try.isAgg4
  z4 := Try.sizeOf4
  v4 := Try.zeroValue4
  t5 := Try.underlying5
  a5 := Try.isAgg5
  z5 := Try.sizeOf5
  v5 := Try.zeroValue5
  t9 := Try.underlying9
  a9 := Try.isAgg9
  z9 := Try.sizeOf9
  v9 := Try.zeroValue9
  t28 := Try.underlying22
  a28 := Try.isAgg22
  z28 := Try.sizeOf22
  v28 := Try.zeroValue22
  t46 := Try.underlying50
  a46 := Try.isAgg50
  z46 := Try.sizeOf50
  v46 := Try.zeroValue50
  t51 := Try.underlying61
  a51 := Try.isAgg61
  z51 := Try.sizeOf61
  v51 := Try.zeroValue61
  t53 := Try.underlying63
  a53 := Try.isAgg63
  z53 := Try.sizeOf63
  v53 := Try.zeroValue63
  t131 := Try.underlying34
  a131 := Try.isAgg34
  z131 := Try.sizeOf34
  v131 := Try.zeroValue34
  t182 := Try.underlying55
  a182 := Try.isAgg55
  z182 := Try.sizeOf55
  v182 := Try.zeroValue55
  t183 := Try.underlying56
  a183 := Try.isAgg56
  z183 := Try.sizeOf56
  v183 := Try.zeroValue56
  t218 := Try.underlying64
  a218 := Try.isAgg64
  z218 := Try.sizeOf64
  v218 := Try.zeroValue64
  t222 := Try.underlying68
  a222 := Try.isAgg68
  z222 := Try.sizeOf68
  v222 := Try.zeroValue68
  t228 := Try.underlying70
  a228 := Try.isAgg70
  z228 := Try.sizeOf70
  v228 := Try.zeroValue70
  t229 := Try.underlying43
  a229 := Try.isAgg43
  z229 := Try.sizeOf43
  v229 := Try.zeroValue43 }

open Go.Sort Go.RowKit in
theorem Try.slices_Sort_int (blk off cap : Nat) (zs : List Int) (w : World) (hH : Holds (Value.int .i64) w blk off zs.toArray) (hblk : blk < w.heap.size) (hsz : zs.length < 4611686018427387904) :
    Calls Try.prog 35 #[.slice (some ⟨blk, off, none⟩) zs.length cap] w fun e w' =>
      e = .returned (.tuple #[]) ∧ ∃ n os, w' = grow (putRow (Value.int .i64) (Sort.ahead w n) blk off (zs.mergeSort fun x y => decide (x ≤ y)).toArray) os := Any.slices_Sort_int Try.lays189 blk off cap zs w hH hblk hsz

def Try.lays112_ren : Go.Shelf.Ren := ⟨fun | 112 => 39 | n => n, fun | 28 => 22 | 3 => 3 | 4 => 4 | 0 => 0 | n => n, fun | n => n⟩

theorem Try.lays112 : Go.Proofs.Lays.n112 Try.prog Try.lays112_ren := {
  mixed := by kernel_rfl
  f112 := Try.func39.trans (congrArg some (by kernel_rfl))
  t0 := Try.underlying0
  a0 := Try.isAgg0
  z0 := Try.sizeOf0
  v0 := Try.zeroValue0
  t3 := Try.underlying3
  a3 := Try.isAgg3
  z3 := Try.sizeOf3
  v3 := Try.zeroValue3
  t4 := Try.underlying4
  a4 := Try.isAgg4
  z4 := Try.sizeOf4
  v4 := Try.zeroValue4
  t28 := Try.underlying22
  a28 := Try.isAgg22
  z28 := Try.sizeOf22
  v28 := Try.zeroValue22 }

open Go.RowKit Go.Lib Go.Sort in
theorem Try.slices_Reverse_int (blk off cap : Nat) (zs : List Int) (w : World) (hH : Holds (Value.int .i64) w blk off zs.toArray) (hsz : zs.length ≤ 9223372036854775807) :
    Calls Try.prog 39 #[.slice (some ⟨blk, off, none⟩) zs.length cap] w fun e w' => e = .returned (.tuple #[]) ∧ ∃ n, w' = putRow (Value.int .i64) (Sort.ahead w n) blk off zs.reverse.toArray := Any.slices_Reverse_int Try.lays112 blk off cap zs w hH hsz

open Go.RowKit Go.Lib Go.Sort in
theorem Try.slices_Reverse_int_empty (a : Option Addr) (cap : Nat) (w : World) :
    Calls Try.prog 39 #[.slice a 0 cap] w fun e w' => e = .returned (.tuple #[]) ∧ w' = w := Any.slices_Reverse_int_empty Try.lays112 a cap w

def Try.laysNm220_ren : Go.Shelf.Ren := ⟨fun | 20 => 37 | n => n, fun | 22 => 22 | 3 => 3 | 4 => 4 | 0 => 0 | n => n, fun | n => n⟩

theorem Try.laysNm220 : Go.Proofs.Lays2.n20 Try.prog Try.laysNm220_ren := {
  mixed := by kernel_rfl
  f20 := Try.func37.trans (congrArg some (by kernel_rfl))
  t0 := Try.underlying0
  a0 := Try.isAgg0
  z0 := Try.sizeOf0
  v0 := Try.zeroValue0
  t3 := Try.underlying3
  a3 := Try.isAgg3
  z3 := Try.sizeOf3
  v3 := Try.zeroValue3
  t4 := Try.underlying4
  a4 := Try.isAgg4
  z4 := Try.sizeOf4
  v4 := Try.zeroValue4
  t22 := Try.underlying22
  a22 := Try.isAgg22
  z22 := Try.sizeOf22
  v22 := Try.zeroValue22
  i3 := by kernel_rfl }

open Go.RowKit Go.Lib Go.Sort in
theorem Try.slices_Compact_int (blk off cap : Nat) (zs : List Int) (w : World) (hH : Holds (Value.int .i64) w blk off zs.toArray) (hsz : zs.length ≤ 9223372036854775807) (hcap : zs.length ≤ cap) :
    Calls Try.prog 37 #[.slice (some ⟨blk, off, none⟩) zs.length cap] w fun e w' => e = .returned (.slice (some ⟨blk, off, none⟩) (Lib.compact zs).length cap) ∧ ∃ q, w' = putRow (Value.int .i64) (Sort.ahead w q) blk off (Lib.compact zs ++ List.replicate (zs.length - (Lib.compact zs).length) 0).toArray := Any.slices_Compact_int Try.laysNm220 blk off cap zs w hH hsz hcap

open Go.RowKit Go.Lib Go.Sort in
theorem Try.slices_Compact_int_empty (a : Option Addr) (cap : Nat) (w : World) :
    Calls Try.prog 37 #[.slice a 0 cap] w fun e w' => e = .returned (.slice a 0 cap) ∧ w' = w := Any.slices_Compact_int_empty Try.laysNm220 a cap w

open Go.RowKit Go.Sort in
theorem Try.slices_Sort_int_none (p : Option Addr) (cap : Nat) (w : World) :
    Calls Try.prog 35 #[.slice p 0 cap] w fun e w' => e = .returned (.tuple #[]) ∧ w' = w := Any.slices_Sort_int_none Try.lays189 p cap w
end Go.Proofs
