/- The walk of FnExactMinStrings: it returns true and writes nothing that was there. -/
import Derived.Test.YthioaialkilbdaaSzStringS
import Derived.Test.YthioaialkilbdaaToStringS
import Derived.Test.YthioaialkilbdaaEqStringS
import Derived.Test.YthioaialkilbdaaMinStrings
import Derived.Test.YthioaialkilbdaaSpecMinStrings
namespace Go.Proofs.Ythioaialkilbdaa
open Go.RowKit

set_option maxHeartbeats 800000 in
theorem lawMinStrings (A : Option Addr) (c : Nat) (zs : List ByteArray) (w : World) (hA : Strs w A zs) (hn : zs.length * 16 ≤ 140737488351232) (hm : ∀ s ∈ zs, s.size ≤ maxLen) :
    Calls Try.prog 8 #[.slice A zs.length c] w fun e w' => e = .returned (.bool true) ∧ Below w.heap.size w w' := by
  have HMX := Lib.hid hm
  clear hm
  by_cases h0 : 0 < zs.length
  · go_enter Try.func8, Try.ntmps8
    go_wp2_with fail
    refine (szStringS_calls A c zs w hA hn HMX.out).mono ?_
    rintro e w0 ⟨n, hp, rfl, hd0⟩
    have HP := Lib.hid hp
    clear hp
    by_cases hneg : n < 0
    · go_wp2
      go_ret
      exact ⟨rfl, hd0.below⟩
    · have hb0 : Below w.heap.size w w0 := hd0.below
      go_wp2_with fail
      refine (toStringS_calls A c zs w0 (hA.below hb0) hn).mono ?_
      rintro e w1 ⟨rfl, hk1, hb1'⟩
      have hb1 := hb0.trans (hb1'.mono hb0.size)
      go_wp2_with fail
      refine (specMinStrings_some _ _ zs w1 hk1.strs hn HMX.out h0).mono ?_
      rintro e w2 ⟨rfl, hd2⟩
      have hb2 := hb1.trans hd2.below
      go_wp2_with fail
      refine (toStringS_calls A c zs w2 (hA.below hb2) hn).mono ?_
      rintro e w3 ⟨rfl, hk3, hb3⟩
      have hb3' := hb2.trans (hb3.mono hb2.size)
      go_wp2_with fail
      refine (minStrings_some _ _ zs w3 hk3.strs hn h0).mono ?_
      rintro e w4 ⟨rfl, hd4⟩
      have hb4 := hb3'.trans (hd4.mono (Nat.le_trans hb2.size hb3.size))
      have hk4 := hk3.below hd4 hk3.lt
      go_wp2_with fail
      refine (toStringS_calls A c zs w4 (hA.below hb4) hn).mono ?_
      rintro e w5 ⟨rfl, hk5, hb5⟩
      have hb5' := hb4.trans (hb5.mono hb4.size)
      go_wp2_with fail
      refine (eqStringS_calls _ _ _ _ zs zs w5 (hk4.strs.below hb5) hk5.strs hn).mono ?_
      rintro e w6 ⟨rfl, hd6⟩
      have hb6 := hb5'.trans hd6.below
      go_wp2
      go_ret
      exact ⟨rfl, hb6⟩
  · obtain rfl : zs = [] := List.eq_nil_of_length_eq_zero (by omega)
    go_enter Try.func8, Try.ntmps8
    go_wp2_with fail
    refine (szStringS_calls A c [] w hA hn HMX.out).mono ?_
    rintro e w0 ⟨n, hp, rfl, hd0⟩
    have HP := Lib.hid hp
    clear hp
    by_cases hneg : n < 0
    · go_wp2
      go_ret
      exact ⟨rfl, hd0.below⟩
    · have hb0 : Below w.heap.size w w0 := hd0.below
      go_wp2_with fail
      refine (toStringS_calls A c [] w0 (hA.below hb0) hn).mono ?_
      rintro e w1 ⟨rfl, hk1, hb1'⟩
      have hb1 := hb0.trans (hb1'.mono hb0.size)
      go_wp2_with fail
      refine (specMinStrings_none _ _ w1).mono ?_
      rintro e w2 ⟨rfl, hd2⟩
      have hb2 := hb1.trans hd2.below
      go_wp2_with fail
      refine (toStringS_calls A c [] w2 (hA.below hb2) hn).mono ?_
      rintro e w3 ⟨rfl, hk3, hb3⟩
      have hb3' := hb2.trans (hb3.mono hb2.size)
      go_wp2_with fail
      refine (minStrings_none _ _ w3).mono ?_
      rintro e w4 ⟨rfl, hd4⟩
      have hb4 := hb3'.trans (hd4.mono (Nat.le_trans hb2.size hb3.size))
      have hk4 := hk3.below hd4 hk3.lt
      go_wp2_with fail
      refine (toStringS_calls A c [] w4 (hA.below hb4) hn).mono ?_
      rintro e w5 ⟨rfl, hk5, hb5⟩
      have hb5' := hb4.trans (hb5.mono hb4.size)
      go_wp2_with fail
      refine (eqStringS_calls _ _ _ _ [] [] w5 (hk4.strs.below hb5) hk5.strs hn).mono ?_
      rintro e w6 ⟨rfl, hd6⟩
      have hb6 := hb5'.trans hd6.below
      go_wp2
      go_ret
      exact ⟨rfl, hb6⟩
end Go.Proofs.Ythioaialkilbdaa
