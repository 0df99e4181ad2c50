/- The walk of FnStableTwice. -/
import Derived.Test.YtnjnphoidjachaaStableItems
import Derived.Test.YtnjnphoidjachaaToItems
import Derived.Test.YtnjnphoidjachaaSortWholeIs
import Derived.Test.YtnjnphoidjachaaStabLaws
namespace Go.Proofs.Ytnjnphoidjachaa
open Go.RowKit

set_option maxHeartbeats 800000 in
theorem lawStableTwice (A : Option Addr) (c : Nat) (zs : List (Int × Int)) (w : World) (hA : Items w A zs) (hn : zs.length * 16 ≤ 140737488351232) :
    Calls Try.prog 7 #[.slice A zs.length c] w fun e w' => e = .returned (.bool true) ∧ Below w.heap.size w w' := by
  obtain ⟨T1, hT1⟩ : ∃ T, T = turn zs := ⟨_, rfl⟩
  obtain ⟨T2, hT2⟩ : ∃ T, T = isort ltK T1 := ⟨_, rfl⟩
  obtain ⟨T3, hT3⟩ : ∃ T, T = turn T2 := ⟨_, rfl⟩
  obtain ⟨L, hL⟩ : ∃ L, L = isort ltW zs := ⟨_, rfl⟩
  have l1 : T1.length = zs.length := by rw [hT1, length_turn]
  have l2 : T2.length = zs.length := by rw [hT2, (isort_perm T1).length_eq, l1]
  have l3 : T3.length = zs.length := by rw [hT3, length_turn, l2]
  have l4 : L.length = zs.length := by rw [hL, (isort_perm zs).length_eq]
  have n1 : T1.length * 16 ≤ 140737488351232 := by omega
  have n2 : T2.length * 16 ≤ 140737488351232 := by omega
  have n3 : T3.length * 16 ≤ 140737488351232 := by omega
  have n4 : L.length * 16 ≤ 140737488351232 := by omega
  have hq : ((L.length : Int) == (zs.length : Int)) = true := by rw [l4]; simp
  have H1 := Lib.hid hT1
  have H2 := Lib.hid hT2
  have H3 := Lib.hid hT3
  have H4 := Lib.hid hL
  have H5 := Lib.hid (show isort ltK T3 = L by rw [hT3, hT2, hT1, hL]; exact twice_is zs)
  clear hT1 hT2 hT3 hL l1 l2 l3 l4
  go_enter Try.func7, Try.ntmps7
  go_wp2_with fail
  refine (toItems_calls _ _ zs w hA hn).mono ?_
  rintro e w1 ⟨A1, c1, rfl, ho1, hb1⟩
  go_wp2_with fail
  have hc2 := turned_calls A1 c1 zs w1 ho1.items hn
  rw [← H1.out] at hc2
  refine hc2.mono ?_
  clear hc2
  rintro e w2 ⟨A2, c2, rfl, ho2, hb2'⟩
  have hb2 := hb1.trans (hb2'.mono hb1.size)
  clear ho1 hb2'
  go_wp2_with fail
  have hc3 := stableItems_is A2 c2 T1 w2 ho2.items n1
  rw [← H2.out] at hc3
  refine hc3.mono ?_
  clear hc3
  rintro e w3 ⟨A3, c3, rfl, ho3, hb3'⟩
  have hb3 := hb2.trans (hb3'.mono hb2.size)
  clear ho2 hb3'
  go_wp2_with fail
  have hc4 := turned_calls A3 c3 T2 w3 ho3.items n2
  rw [← H3.out] at hc4
  refine hc4.mono ?_
  clear hc4
  rintro e w4 ⟨A4, c4, rfl, ho4, hb4'⟩
  have hb4 := hb3.trans (hb4'.mono hb3.size)
  clear ho3 hb4'
  go_wp2_with fail
  have hc5 := stableItems_is A4 c4 T3 w4 ho4.items n3
  rw [H5.out] at hc5
  refine hc5.mono ?_
  clear hc5
  rintro e w5 ⟨A5, c5, rfl, ho5, hb5'⟩
  have hb5 := hb4.trans (hb5'.mono hb4.size)
  have hI5 := hA.below hb5
  clear ho4 hb5'
  go_wp2_with fail
  refine (toItems_calls _ _ zs w5 hI5 hn).mono ?_
  rintro e w6 ⟨A6, c6, rfl, ho6, hb6'⟩
  have hb6 := hb5.trans (hb6'.mono hb5.size)
  have hY6 := ho5.items.below hb6'
  clear ho5 hb6' hI5
  go_wp2_with fail
  have hc7 := sortWhole_is A6 c6 zs w6 ho6.items hn
  rw [← H4.out] at hc7
  refine hc7.mono ?_
  clear hc7
  rintro e w7 ⟨A7, c7, rfl, ho7, hb7'⟩
  have hb7 := hb6.trans (hb7'.mono hb6.size)
  have hY7 := hY6.below hb7'
  clear ho6 hb7' hY6
  go_wp2_with fail
  refine (sameItems_true A5 A7 c5 c7 L w7 hY7 ho7.items n4).mono ?_
  rintro e w8 ⟨rfl, hd8⟩
  have hb8 := hb7.trans (hd8.below.mono hb7.size)
  go_wp2
  go_ret
  exact ⟨rfl, hb8⟩
end Go.Proofs.Ytnjnphoidjachaa
