/- The walk of FnExactMaxInts: it returns true and writes nothing that was there. -/
import Derived.Test.YthioaialkilbdaaToIntS
import Derived.Test.YthioaialkilbdaaEqIntS
import Derived.Test.YthioaialkilbdaaMaxInts
import Derived.Test.YthioaialkilbdaaSpecMaxInts
namespace Go.Proofs.Ythioaialkilbdaa
open Go.RowKit

set_option maxHeartbeats 800000 in
theorem lawMaxInts (A : Option Addr) (c : Nat) (zs : List Int) (w : World) (hA : Ints w A zs) (hn : zs.length * 8 ≤ 140737488351232) :
    Calls Try.prog 5 #[.slice A zs.length c] w fun e w' => e = .returned (.bool true) ∧ Below w.heap.size w w' := by
  by_cases hbig : 1048576 < zs.length
  · go_enter Try.func5, Try.ntmps5
    go_wp2
    go_ret
    exact ⟨rfl, Below.refl _ _⟩
  · by_cases h0 : 0 < zs.length
    · go_enter Try.func5, Try.ntmps5
      go_wp2_with fail
      refine (toIntS_calls A c zs w hA hn).mono ?_
      rintro e w1 ⟨rfl, hk1, hb1⟩
      go_wp2_with fail
      refine (specMaxInts_some _ _ zs w1 hk1.ints hn h0).mono ?_
      rintro e w2 ⟨rfl, hd2⟩
      have hb2 := hb1.trans hd2.below
      go_wp2_with fail
      refine (toIntS_calls A c zs w2 (hA.below hb2) hn).mono ?_
      rintro e w3 ⟨rfl, hk3, hb3⟩
      have hb3' := hb2.trans (hb3.mono hb2.size)
      go_wp2_with fail
      refine (maxInts_some _ _ zs w3 hk3.ints hn h0).mono ?_
      rintro e w4 ⟨rfl, hd4⟩
      have hb4 := hb3'.trans (hd4.mono (Nat.le_trans hb2.size hb3.size))
      have hk4 := hk3.below hd4 hk3.lt
      go_wp2_with fail
      refine (toIntS_calls A c zs w4 (hA.below hb4) hn).mono ?_
      rintro e w5 ⟨rfl, hk5, hb5⟩
      have hb5' := hb4.trans (hb5.mono hb4.size)
      go_wp2_with fail
      refine (eqIntS_calls _ _ _ _ zs zs w5 (hk4.ints.below hb5) hk5.ints hn).mono ?_
      rintro e w6 ⟨rfl, hd6⟩
      have hb6 := hb5'.trans hd6.below
      go_wp2
      go_ret
      exact ⟨rfl, hb6⟩
    · obtain rfl : zs = [] := List.eq_nil_of_length_eq_zero (by omega)
      go_enter Try.func5, Try.ntmps5
      go_wp2_with fail
      refine (toIntS_calls A c [] w hA hn).mono ?_
      rintro e w1 ⟨rfl, hk1, hb1⟩
      go_wp2_with fail
      refine (specMaxInts_none _ _ w1).mono ?_
      rintro e w2 ⟨rfl, hd2⟩
      have hb2 := hb1.trans hd2.below
      go_wp2_with fail
      refine (toIntS_calls A c [] w2 (hA.below hb2) hn).mono ?_
      rintro e w3 ⟨rfl, hk3, hb3⟩
      have hb3' := hb2.trans (hb3.mono hb2.size)
      go_wp2_with fail
      refine (maxInts_none _ _ w3).mono ?_
      rintro e w4 ⟨rfl, hd4⟩
      have hb4 := hb3'.trans (hd4.mono (Nat.le_trans hb2.size hb3.size))
      have hk4 := hk3.below hd4 hk3.lt
      go_wp2_with fail
      refine (toIntS_calls A c [] w4 (hA.below hb4) hn).mono ?_
      rintro e w5 ⟨rfl, hk5, hb5⟩
      have hb5' := hb4.trans (hb5.mono hb4.size)
      go_wp2_with fail
      refine (eqIntS_calls _ _ _ _ [] [] w5 (hk4.ints.below hb5) hk5.ints hn).mono ?_
      rintro e w6 ⟨rfl, hd6⟩
      have hb6 := hb5'.trans hd6.below
      go_wp2
      go_ret
      exact ⟨rfl, hb6⟩
end Go.Proofs.Ythioaialkilbdaa
