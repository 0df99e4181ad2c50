/- The walk of FnStableOfSorted. -/
import Derived.Test.YtnjnphoidjachaaStableItems
import Derived.Test.YtnjnphoidjachaaToItems
import Derived.Test.YtnjnphoidjachaaAscKeys
import Derived.Test.YtnjnphoidjachaaStabLaws
namespace Go.Proofs.Ytnjnphoidjachaa
open Go.RowKit

set_option maxHeartbeats 800000 in
theorem lawStableOfSorted (A : Option Addr) (c : Nat) (zs : List (Int × Int)) (w : World) (hA : Items w A zs) (hn : zs.length * 16 ≤ 140737488351232) :
    Calls Try.prog 10 #[.slice A zs.length c] w fun e w' => e = .returned (.bool true) ∧ Below w.heap.size w w' := by
  by_cases ha : ascB (keys zs) = true
  · have HI := Lib.hid (isort_asc ha)
    have hca := fun A' c' w' h => ascendingKeys_calls A' c' zs w' h hn
    rw [ha] at hca
    clear ha
    go_enter Try.func10, Try.ntmps10
    go_wp2_with fail
    refine (toItems_calls _ _ zs w hA hn).mono ?_
    rintro e w1 ⟨A1, c1, rfl, ho1, hb1⟩
    go_wp2_with fail
    refine (hca _ _ _ ho1.items).mono ?_
    rintro e w2 ⟨rfl, hd2⟩
    have hb2 := hb1.trans (hd2.below.mono hb1.size)
    have hI2 := ho1.items.below hd2.below
    clear hca ho1
    go_wp2_with fail
    have hc3 := stableItems_is A1 c1 zs w2 hI2 hn
    rw [HI.out] at hc3
    refine hc3.mono ?_
    clear hc3
    rintro e w3 ⟨A3, c3, rfl, ho3, hb3'⟩
    have hb3 := hb2.trans (hb3'.mono hb2.size)
    have hI3 := hI2.below hb3'
    clear hI2
    go_wp2_with fail
    refine (sameItems_true A3 A1 c3 c1 zs w3 ho3.items hI3 hn).mono ?_
    rintro e w4 ⟨rfl, hd4⟩
    have hb4 := hb3.trans (hd4.below.mono hb3.size)
    go_wp2
    go_ret
    exact ⟨rfl, hb4⟩
  · have ha' : ascB (keys zs) = false := by simpa using ha
    have hca := fun A' c' w' h => ascendingKeys_calls A' c' zs w' h hn
    rw [ha'] at hca
    clear ha ha'
    go_enter Try.func10, Try.ntmps10
    go_wp2_with fail
    refine (toItems_calls _ _ zs w hA hn).mono ?_
    rintro e w1 ⟨A1, c1, rfl, ho1, hb1⟩
    go_wp2_with fail
    refine (hca _ _ _ ho1.items).mono ?_
    rintro e w2 ⟨rfl, hd2⟩
    have hb2 := hb1.trans (hd2.below.mono hb1.size)
    clear hca ho1
    go_wp2
    go_ret
    exact ⟨rfl, hb2⟩
end Go.Proofs.Ytnjnphoidjachaa
