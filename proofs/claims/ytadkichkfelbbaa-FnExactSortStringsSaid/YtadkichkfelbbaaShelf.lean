/- Contracts of Go's library, laid at this seat's translation by the kit's own tools (lay-shelf.mjs, lay-plain.mjs); cut to those that are used here. -/
import Derived.Shelf.Small.Bits
import Derived.Shelf.Small.Wraps
import Derived.Shelf.Strconv.Itoa0
import Derived.Shelf.Sort.Plain
import Derived.Shelf.Slices.Turned
import Derived.Ground.Names2Prog
import Derived.Shelf.Slices.SearchI
import Derived.Shelf.Slices.In.SortNone
import Derived.Shelf.Slices.Empties
import Derived.Test.YtadkichkfelbbaaProg
namespace Go.Proofs
open Go.Shelf
def Try.lays190_ren : Go.Shelf.Ren := ⟨fun | 190 => 29 | 125 => 45 | 258 => 44 | 128 => 57 | 129 => 58 | 302 => 48 | 303 => 49 | 304 => 50 | 305 => 51 | 306 => 52 | 307 => 53 | 308 => 54 | 309 => 55 | 310 => 56 | 333 => 60 | 329 => 61 | 330 => 62 | 334 => 63 | 335 => 64 | 336 => 65 | 344 => 66 | n => n, fun | 31 => 22 | 9 => 9 | 3 => 3 | 46 => 46 | 0 => 0 | 51 => 58 | 53 => 60 | 4 => 4 | 183 => 52 | 182 => 51 | 131 => 30 | 5 => 5 | 218 => 61 | 222 => 65 | 228 => 68 | 229 => 69 | n => n, fun | n => n⟩

theorem Try.lays190 : Go.Proofs.Lays.n190 Try.prog Try.lays190_ren := {
  mixed := by kernel_rfl
  f125 := Try.func45.trans (congrArg some (by kernel_rfl))
  f128 := Try.func57.trans (congrArg some (by kernel_rfl))
  f129 := Try.func58.trans (congrArg some (by kernel_rfl))
  f190 := Try.func29.trans (congrArg some (by kernel_rfl))
  f258 := Try.func44.trans (congrArg some (by kernel_rfl))
  f302 := Try.func48.trans (congrArg some (by kernel_rfl))
  f303 := Try.func49.trans (congrArg some (by kernel_rfl))
  f304 := Try.func50.trans (congrArg some (by kernel_rfl))
  f305 := Try.func51.trans (congrArg some (by kernel_rfl))
  f306 := Try.func52.trans (congrArg some (by kernel_rfl))
  f307 := Try.func53.trans (congrArg some (by kernel_rfl))
  f308 := Try.func54.trans (congrArg some (by kernel_rfl))
  f309 := Try.func55.trans (congrArg some (by kernel_rfl))
  f310 := Try.func56.trans (congrArg some (by kernel_rfl))
  f329 := Try.func61.trans (congrArg some (by kernel_rfl))
  f330 := Try.func62.trans (congrArg some (by kernel_rfl))
  f333 := Try.func60.trans (congrArg some (by kernel_rfl))
  f334 := Try.func63.trans (congrArg some (by kernel_rfl))
  f335 := Try.func64.trans (congrArg some (by kernel_rfl))
  f336 := Try.func65.trans (congrArg some (by kernel_rfl))
  f344 := Try.func66.trans (congrArg some (by kernel_rfl))
  t0 := Try.underlying0
  a0 := Try.isAgg0
  z0 := Try.sizeOf0
  v0 := Try.zeroValue0
  t3 := Try.underlying3
  a3 := Try.isAgg3
  z3 := Try.sizeOf3
  v3 := Try.zeroValue3
  t4 := Try.underlying4
  a4 := Try.isAgg4
  z4 := Try.sizeOf4
  v4 := Try.zeroValue4
  t5 := Try.underlying5
  a5 := Try.isAgg5
  z5 := Try.sizeOf5
  v5 := Try.zeroValue5
  t9 := Try.underlying9
  a9 := Try.isAgg9
  z9 := Try.sizeOf9
  v9 := Try.zeroValue9
  t31 := Try.underlying22
  a31 := Try.isAgg22
  z31 := Try.sizeOf22
  v31 := Try.zeroValue22
  t46 := Try.underlying46
  a46 := Try.isAgg46
  z46 := Try.sizeOf46
  v46 := Try.zeroValue46
  t51 := Try.underlying58
  a51 := Try.isAgg58
  z51 := Try.sizeOf58
  v51 := Try.zeroValue58
  t53 := Try.underlying60
  a53 := Try.isAgg60
  z53 := Try.sizeOf60
  v53 := Try.zeroValue60
  t131 := Try.underlying30
  a131 := Try.isAgg30
  z131 := Try.sizeOf30
  v131 := Try.zeroValue30
  t182 := Try.underlying51
  a182 := Try.isAgg51
  z182 := Try.sizeOf51
  v182 := Try.zeroValue51
  t183 := Try.underlying52
  a183 := Try.isAgg52
  z183 := Try.sizeOf52
  v183 := Try.zeroValue52
  t218 := Try.underlying61
  a218 := Try.isAgg61
  z218 := Try.sizeOf61
  v218 := Try.zeroValue61
  t222 := Try.underlying65
  a222 := Try.isAgg65
  z222 := Try.sizeOf65
  v222 := Try.zeroValue65
  t228 := Try.underlying68
  a228 := Try.isAgg68
  z228 := Try.sizeOf68
  v228 := Try.zeroValue68
  t229 := Try.underlying69
  a229 := Try.isAgg69
  z229 := Try.sizeOf69
  v229 := Try.zeroValue69 }

open Go.Sort Go.RowKit in
theorem Try.slices_Sort_string (blk off cap : Nat) (ss : List (List UInt8)) (w : World) (hH : Holds encStr w blk off ss.toArray) (hblk : blk < w.heap.size) (hsz : ss.length < 4611686018427387904) :
    Calls Try.prog 29 #[.slice (some ⟨blk, off, none⟩) ss.length cap] w fun e w' =>
      e = .returned (.tuple #[]) ∧ ∃ n os, w' = grow (putRow encStr (Sort.ahead w n) blk off (ss.mergeSort fun x y => decide (x ≤ y)).toArray) os := Any.slices_Sort_string Try.lays190 blk off cap ss w hH hblk hsz

open Go.RowKit Go.Sort in
theorem Try.slices_Sort_string_none (p : Option Addr) (cap : Nat) (w : World) :
    Calls Try.prog 29 #[.slice p 0 cap] w fun e w' => e = .returned (.tuple #[]) ∧ w' = w := Any.slices_Sort_string_none Try.lays190 p cap w
end Go.Proofs
