/- The walk of FnSortByAnyRelation. -/
import Derived.Test.YtfapllhjccpfpaaSortByAny
import Derived.Test.YtfapllhjccpfpaaToOrder
import Derived.Test.YtfapllhjccpfpaaSameNumbers
namespace Go.Proofs.Ytfapllhjccpfpaa
open Go.RowKit

set_option maxHeartbeats 800000 in
theorem lawSortByAnyRelation (A B : Option Addr) (c d : Nat) (zs : List Int) (sz : Int) (bs : List Bool) (w : World) (hA : Ints w A zs) (hn : zs.length * 8 ≤ 140737488351232) (hB : Bools w B bs) (hbn : bs.length ≤ 140737488351232) (hsz : sz < 9223372036854775808) :
    Calls Try.prog 5 #[.slice A zs.length c, .agg #[.int .i64 sz, .slice B bs.length d]] w fun e w' => e = .returned (.bool true) ∧ Below w.heap.size w w' := by
  have hb0 : Below w.heap.size w (w.alloc (.cells #[.int .i64 sz, .slice B bs.length d] 25)) := (Below.refl _ _).alloc (Nat.le_refl _) _
  have hA0 := hA.below hb0
  have hB0 := hB.below hb0
  go_enter Try.func5, Try.ntmps5
  go_wp2_with fail
  refine (toOrder_calls sz B d bs _ hB0 hbn).mono ?_
  rintro e w1 ⟨B1, d1, rfl, hB1, hb1'⟩
  have hb1 := hb0.trans (hb1'.mono hb0.size)
  have hA1 := hA0.below hb1'
  clear hA0 hB0 hb1' hb0
  go_wp2_with fail
  refine (sortByOrder_any A c zs sz B1 d1 bs w1 hA1 hn hB1 hbn hsz).mono ?_
  rintro e w2 ⟨ys, hys, A2, c2, rfl, ho2, hb2'⟩
  have hb2 := hb1.trans (hb2'.mono hb1.size)
  have hA2 := hA1.below hb2'
  have HP := Lib.hid hys
  clear hys
  go_wp2_with fail
  refine (sameNumbers_perm A A2 c c2 zs ys w2 hA2 ho2.ints hn HP.out.symm).mono ?_
  rintro e w3 ⟨rfl, hd3⟩
  go_wp2
  go_ret
  exact ⟨rfl, hb2.trans (hd3.below.mono hb2.size)⟩
end Go.Proofs.Ytfapllhjccpfpaa
