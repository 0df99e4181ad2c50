/- The walk of FnBinarySearchItems. -/
import Derived.Test.YthioaialkilbdaaBinItems
import Derived.Test.YthioaialkilbdaaToItems
import Derived.Test.YthioaialkilbdaaAscKeys
namespace Go.Proofs.Ythioaialkilbdaa
open Go.RowKit

set_option maxHeartbeats 400000 in
theorem lawBinarySearchItems (A : Option Addr) (c : Nat) (zs : List (Int × Int)) (v : Int) (w : World) (hA : Items w A zs) (hn : zs.length * 16 ≤ 140737488351232) :
    Calls Try.prog 11 #[.slice A zs.length c, .int .i64 v] w fun e w' => e = .returned (.bool true) ∧ Below w.heap.size w w' := by
  go_enter Try.func11, Try.ntmps11
  go_wp2_with fail
  refine (toItems_calls _ _ zs w hA hn).mono ?_
  rintro e w0 ⟨A0, c0, rfl, ho, hb0⟩
  have hI := ho.items
  clear ho
  go_wp2_with fail
  refine (ascendingKeys_calls _ _ zs w0 hI hn).mono ?_
  rintro e w1 ⟨rfl, hd1⟩
  have hb1 := hb0.trans hd1.below
  cases ha : ascB (keys zs) with
  | false =>
    clear ha
    go_wp2
    go_ret
    exact ⟨rfl, hb1⟩
  | true =>
    have HA := Lib.hid ha
    clear ha
    go_wp2_with fail
    refine (binarySearchItems_calls _ _ zs v w1 (hI.below hd1.below) hn HA.out).mono ?_
    rintro e w2 ⟨rfl, hd2⟩
    have hb2 := hb1.trans (hd2.mono hb1.size)
    go_wp2_with fail
    refine (specBinarySearchItems_calls _ _ zs v w2 ((hI.below hd1.below).below hd2) hn).mono ?_
    rintro e w3 ⟨rfl, hd3⟩
    go_wp2
    go_ret
    exact ⟨ret_bool (by simp), hb2.trans (hd3.mono hb2.size)⟩
end Go.Proofs.Ythioaialkilbdaa
