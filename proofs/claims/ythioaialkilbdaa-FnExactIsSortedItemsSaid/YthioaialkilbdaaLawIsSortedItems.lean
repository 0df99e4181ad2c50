/- The walk of FnExactIsSortedItems: it returns true and writes nothing that was there. -/
import Derived.Test.YthioaialkilbdaaToItem
import Derived.Test.YthioaialkilbdaaEqItem
import Derived.Test.YthioaialkilbdaaSortedItems
import Derived.Test.YthioaialkilbdaaSpecSortedItems
namespace Go.Proofs.Ythioaialkilbdaa
open Go.RowKit

set_option maxHeartbeats 800000 in
theorem lawIsSortedItems (A : Option Addr) (c : Nat) (zs : List (Int × Int)) (w : World) (hA : Items w A zs) (hn : zs.length * 16 ≤ 140737488351232) :
    Calls Try.prog 10 #[.slice A zs.length c] w fun e w' => e = .returned (.bool true) ∧ Below w.heap.size w w' := by
  go_enter Try.func10, Try.ntmps10
  go_wp2_with fail
  refine (szItemS_calls A c zs.length w hn).mono ?_
  rintro e w0 ⟨n, hp, rfl, hd0⟩
  have HP := Lib.hid hp
  clear hp
  by_cases hneg : n < 0
  · go_wp2
    go_ret
    exact ⟨rfl, hd0.below⟩
  · have hb0 : Below w.heap.size w w0 := hd0.below
    go_wp2_with fail
    refine (toItemS_calls A c zs w0 (hA.below hb0) hn).mono ?_
    rintro e w1 ⟨rfl, hk1, hb1'⟩
    have hb1 := hb0.trans (hb1'.mono hb0.size)
    go_wp2_with fail
    refine (specIsSortedItems_calls _ _ zs w1 hk1.items hn).mono ?_
    rintro e w2 ⟨rfl, hd2⟩
    have hb2 := hb1.trans hd2.below
    go_wp2_with fail
    refine (toItemS_calls A c zs w2 (hA.below hb2) hn).mono ?_
    rintro e w3 ⟨rfl, hk3, hb3⟩
    have hb3' := hb2.trans (hb3.mono hb2.size)
    go_wp2_with fail
    refine (isSortedItems_calls _ _ zs w3 hk3.items hn).mono ?_
    rintro e w4 ⟨rfl, hd4⟩
    have hb4 := hb3'.trans (hd4.mono (Nat.le_trans hb2.size hb3.size))
    have hk4 := hk3.below hd4 hk3.lt
    go_wp2_with fail
    refine (toItemS_calls A c zs w4 (hA.below hb4) hn).mono ?_
    rintro e w5 ⟨rfl, hk5, hb5⟩
    have hb5' := hb4.trans (hb5.mono hb4.size)
    go_wp2_with fail
    refine (eqItemS_calls _ _ _ _ zs zs w5 (hk4.items.below hb5) hk5.items hn).mono ?_
    rintro e w6 ⟨rfl, hd6⟩
    have hb6 := hb5'.trans (hd6.mono hb5'.size)
    go_wp2
    go_ret
    exact ⟨rfl, hb6⟩
end Go.Proofs.Ythioaialkilbdaa
