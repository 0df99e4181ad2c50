/- The walk of FnExactIsSortedInts: it returns true and writes nothing that was there. -/
import Derived.Test.YthioaialkilbdaaToIntS
import Derived.Test.YthioaialkilbdaaEqIntS
import Derived.Test.YthioaialkilbdaaSortedInt
import Derived.Test.YthioaialkilbdaaSpecSortedInts
namespace Go.Proofs.Ythioaialkilbdaa
open Go.RowKit

set_option maxHeartbeats 400000 in
theorem lawIsSortedInts (A : Option Addr) (c : Nat) (zs : List Int) (w : World) (hA : Ints w A zs) (hn : zs.length * 8 ≤ 140737488351232) :
    Calls Try.prog 3 #[.slice A zs.length c] w fun e w' => e = .returned (.bool true) ∧ Below w.heap.size w w' := by
  by_cases hbig : 1048576 < zs.length
  · go_enter Try.func3, Try.ntmps3
    go_wp2
    go_ret
    exact ⟨rfl, Below.refl _ _⟩
  · go_enter Try.func3, Try.ntmps3
    go_wp2_with fail
    refine (toIntS_calls A c zs w hA hn).mono ?_
    rintro e w1 ⟨rfl, hk1, hb1⟩
    go_wp2_with fail
    refine (specIsSortedInts_calls _ _ zs w1 hk1.ints hn).mono ?_
    rintro e w2 ⟨rfl, hd2⟩
    have hb2 := hb1.trans hd2.below
    go_wp2_with fail
    refine (toIntS_calls A c zs w2 (hA.below hb2) hn).mono ?_
    rintro e w3 ⟨rfl, hk3, hb3⟩
    have hb3' := hb2.trans (hb3.mono hb2.size)
    go_wp2_with fail
    refine (isSortedInts_calls _ _ zs w3 hk3.ints hn).mono ?_
    rintro e w4 ⟨rfl, hd4⟩
    have hb4 := hb3'.trans hd4.below
    have hk4 := hk3.below (hd4.below (B := w3.heap.size)) hk3.lt
    go_wp2_with fail
    refine (toIntS_calls A c zs w4 (hA.below hb4) hn).mono ?_
    rintro e w5 ⟨rfl, hk5, hb5⟩
    have hb5' := hb4.trans (hb5.mono hb4.size)
    go_wp2_with fail
    refine (eqIntS_calls _ _ _ _ zs zs w5 (hk4.ints.below hb5) hk5.ints hn).mono ?_
    rintro e w6 ⟨rfl, hd6⟩
    have hb6 := hb5'.trans hd6.below
    go_wp2
    go_ret
    exact ⟨rfl, hb6⟩
end Go.Proofs.Ythioaialkilbdaa
