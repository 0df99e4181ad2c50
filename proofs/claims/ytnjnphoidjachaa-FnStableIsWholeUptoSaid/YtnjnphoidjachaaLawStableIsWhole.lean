/- The walk of FnStableIsWhole. -/
import Derived.Test.YtnjnphoidjachaaStableItems
import Derived.Test.YtnjnphoidjachaaSortWholeIs
import Derived.Test.YtnjnphoidjachaaStabLaws
namespace Go.Proofs.Ytnjnphoidjachaa
open Go.RowKit

set_option maxHeartbeats 800000 in
theorem lawStableIsWhole (A : Option Addr) (c : Nat) (zs : List Int) (w : World) (hA : Ints w A zs) (hn : zs.length * 16 ≤ 140737488351232) :
    Calls Try.prog 6 #[.slice A zs.length c] w fun e w' => e = .returned (.bool true) ∧ Below w.heap.size w w' := by
  obtain ⟨T1, hT1⟩ : ∃ T, T = numb zs := ⟨_, rfl⟩
  obtain ⟨L, hL⟩ : ∃ L, L = isort ltW T1 := ⟨_, rfl⟩
  have l1 : T1.length = zs.length := by rw [hT1, length_numb]
  have l4 : L.length = zs.length := by rw [hL, (isort_perm T1).length_eq, l1]
  have n1 : T1.length * 16 ≤ 140737488351232 := by omega
  have n4 : L.length * 16 ≤ 140737488351232 := by omega
  have hq : ((L.length : Int) == (zs.length : Int)) = true := by rw [l4]; simp
  have H1 := Lib.hid hT1
  have H4 := Lib.hid hL
  have H5 := Lib.hid (show isort ltK T1 = L by rw [hT1, hL, hT1]; exact numb_is zs)
  clear hT1 hL l1 l4
  go_enter Try.func6, Try.ntmps6
  go_wp2_with fail
  have hc1 := numbered_calls A c zs w hA hn
  rw [← H1.out] at hc1
  refine hc1.mono ?_
  clear hc1
  rintro e w1 ⟨A1, c1, rfl, ho1, hb1⟩
  go_wp2_with fail
  have hc5 := stableItems_is A1 c1 T1 w1 ho1.items n1
  rw [H5.out] at hc5
  refine hc5.mono ?_
  clear hc5
  rintro e w5 ⟨A5, c5, rfl, ho5, hb5'⟩
  have hb5 := hb1.trans (hb5'.mono hb1.size)
  have hI5 := hA.below hb5
  clear ho1 hb5'
  go_wp2_with fail
  have hc6 := numbered_calls A c zs w5 hI5 hn
  rw [← H1.out] at hc6
  refine hc6.mono ?_
  clear hc6
  rintro e w6 ⟨A6, c6, rfl, ho6, hb6'⟩
  have hb6 := hb5.trans (hb6'.mono hb5.size)
  have hY6 := ho5.items.below hb6'
  clear ho5 hb6' hI5
  go_wp2_with fail
  have hc7 := sortWhole_is A6 c6 T1 w6 ho6.items n1
  rw [← H4.out] at hc7
  refine hc7.mono ?_
  clear hc7
  rintro e w7 ⟨A7, c7, rfl, ho7, hb7'⟩
  have hb7 := hb6.trans (hb7'.mono hb6.size)
  have hY7 := hY6.below hb7'
  clear ho6 hb7' hY6
  go_wp2_with fail
  refine (sameItems_true A5 A7 c5 c7 L w7 hY7 ho7.items n4).mono ?_
  rintro e w8 ⟨rfl, hd8⟩
  have hb8 := hb7.trans (hd8.below.mono hb7.size)
  go_wp2
  go_ret
  exact ⟨rfl, hb8⟩
end Go.Proofs.Ytnjnphoidjachaa
