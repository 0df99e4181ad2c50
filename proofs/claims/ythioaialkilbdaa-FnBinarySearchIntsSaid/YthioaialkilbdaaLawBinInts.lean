/- The walk of FnBinarySearchInts. -/
import Derived.Test.YthioaialkilbdaaBinInts
import Derived.Test.YthioaialkilbdaaSpecBinInts
import Derived.Test.YthioaialkilbdaaAscending
namespace Go.Proofs.Ythioaialkilbdaa
open Go.RowKit

set_option maxHeartbeats 400000 in
theorem lawBinarySearchInts (A : Option Addr) (c : Nat) (zs : List Int) (v : Int) (w : World) (hA : Ints w A zs) (hn : zs.length * 8 ≤ 140737488351232) :
    Calls Try.prog 12 #[.slice A zs.length c, .int .i64 v] w fun e w' => e = .returned (.bool true) ∧ Below w.heap.size w w' := by
  go_enter Try.func12, Try.ntmps12
  go_wp2_with fail
  refine (ascending_calls _ _ zs w hA hn).mono ?_
  rintro e w1 ⟨rfl, hd1⟩
  cases ha : ascB zs with
  | false =>
    clear ha
    go_wp2
    go_ret
    exact ⟨rfl, hd1.below⟩
  | true =>
    have HA := Lib.hid ha
    clear ha
    go_wp2_with fail
    refine (binarySearchInts_asc _ _ zs v w1 (hA.below hd1.below) hn HA.out).mono ?_
    rintro e w2 ⟨rfl, hd2⟩
    go_wp2_with fail
    refine (specBinarySearchInts_calls _ _ zs v w2 (hA.below (hd1.trans hd2).below) hn).mono ?_
    rintro e w3 ⟨rfl, hd3⟩
    go_wp2
    go_ret
    exact ⟨ret_bool (by simp), ((hd1.trans hd2).trans hd3).below⟩
end Go.Proofs.Ythioaialkilbdaa
