/- The walk of FnSortIntsSorts. -/
import Derived.Test.YtnondbhmoflpjaaSortInts
import Derived.Test.YtnondbhmoflpjaaAscending
import Derived.Test.YtnondbhmoflpjaaSameNumbers
namespace Go.Proofs.Ytnondbhmoflpjaa
open Go.RowKit

set_option maxHeartbeats 400000 in
theorem lawSortIntsSorts (A : Option Addr) (c : Nat) (zs : List Int) (w : World) (hA : Ints w A zs) (hn : zs.length * 8 ≤ 140737488351232) :
    Calls Try.prog 5 #[.slice A zs.length c] w fun e w' => e = .returned (.bool true) ∧ Below w.heap.size w w' := by
  have hn1 : (sortI zs).length * 8 ≤ 140737488351232 := by rw [length_sortI]; exact hn
  go_enter Try.func5, Try.ntmps5
  go_wp2_with fail
  refine (sortInts_calls _ _ zs w hA hn).mono ?_
  rintro e w1 ⟨A1, c1, rfl, ho1, hb1⟩
  go_wp2_with fail
  refine (ascending_calls _ _ (sortI zs) w1 ho1.ints hn1).mono ?_
  rintro e w2 ⟨he2, hd2⟩
  rw [asc_sortI] at he2
  subst he2
  have hb2 := hb1.trans hd2.below
  go_wp2_with fail
  refine (sameNumbers_perm _ _ _ _ zs (sortI zs) w2 (hA.below hb2) (ho1.ints.below hd2.below) hn (perm_sortI zs).symm).mono ?_
  rintro e w3 ⟨rfl, hd3⟩
  go_wp2
  go_ret
  exact ⟨rfl, hb2.trans hd3.below⟩
end Go.Proofs.Ytnondbhmoflpjaa
