/- The walk of FnSortStringsSorts. -/
import Derived.Test.YtadkichkfelbbaaSortStrings
import Derived.Test.YtadkichkfelbbaaAscTexts
import Derived.Test.YtadkichkfelbbaaSameWords
namespace Go.Proofs.Ytadkichkfelbbaa
open Go.RowKit

set_option maxHeartbeats 400000 in
theorem lawSortStringsSorts (A : Option Addr) (c : Nat) (zs : List ByteArray) (w : World) (hA : Strs w A zs) (hn : zs.length * 16 ≤ 140737488351232) (hm : ∀ s ∈ zs, s.size ≤ maxLen) :
    Calls Try.prog 4 #[.slice A zs.length c] w fun e w' => e = .returned (.bool true) ∧ Below w.heap.size w w' := by
  have hn1 : (sortS zs).length * 16 ≤ 140737488351232 := by rw [length_sortS]; exact hn
  have HM : Hid (∀ s ∈ sortS zs, s.size ≤ maxLen) := fun s hs => hm s ((perm_sortS zs).mem_iff.1 hs)
  clear hm
  go_enter Try.func4, Try.ntmps4
  go_wp2_with fail
  refine (sortStrings_calls _ _ zs w hA hn).mono ?_
  rintro e w1 ⟨A1, c1, rfl, ho1, hb1⟩
  go_wp2_with fail
  refine (ascendingTexts_calls _ _ (sortS zs) w1 ho1.strs hn1 HM.out).mono ?_
  rintro e w2 ⟨he2, hd2⟩
  rw [asc_sortS] at he2
  subst he2
  have hb2 := hb1.trans hd2.below
  go_wp2_with fail
  refine (sameWords_perm _ _ _ _ zs (sortS zs) w2 (hA.below hb2) (ho1.strs.below hd2.below) hn (perm_sortS zs).symm).mono ?_
  rintro e w3 ⟨rfl, hd3⟩
  go_wp2
  go_ret
  exact ⟨rfl, hb2.trans hd3.below⟩
end Go.Proofs.Ytadkichkfelbbaa
