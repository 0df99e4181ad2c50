/- The walk of FnIsSortedInts. -/
import Derived.Test.YtnondbhmoflpjaaSortInts
import Derived.Test.YtnondbhmoflpjaaSameInts
import Derived.Test.YtnondbhmoflpjaaSortedInt
namespace Go.Proofs.Ytnondbhmoflpjaa
open Go.RowKit

set_option maxHeartbeats 400000 in
theorem lawFnIsSortedInts (A : Option Addr) (c : Nat) (zs : List Int) (w : World) (hA : Ints w A zs) (hn : zs.length * 8 ≤ 140737488351232) :
    Calls Try.prog 10 #[.slice A zs.length c] w fun e w' => e = .returned (.bool true) ∧ Below w.heap.size w w' := by
  have hn1 : (sortI zs).length * 8 ≤ 140737488351232 := by rw [length_sortI]; exact hn
  go_enter Try.func10, Try.ntmps10
  go_wp2_with fail
  refine (isSortedInts_calls _ _ zs w hA hn).mono ?_
  rintro e w1 ⟨rfl, hd1⟩
  have hb1 : Below w.heap.size w w1 := hd1.below
  go_wp2_with fail
  refine (sortInts_calls _ _ zs w1 (hA.below hb1) hn).mono ?_
  rintro e w2 ⟨A2, c2, rfl, ho2, hb2'⟩
  have hb2 := hb1.trans (hb2'.mono hb1.size)
  go_wp2_with fail
  refine (sameInts_calls _ _ _ _ (sortI zs) zs w2 ho2.ints (hA.below hb2) hn1).mono ?_
  rintro e w3 ⟨he3, hd3⟩
  rw [← asc_iff_sorted] at he3
  subst he3
  have hb3 := hb2.trans hd3.below
  have hq : (ascB zs == ascB zs) = true := by simp
  go_wp2_with fail
  refine (sortInts_calls _ _ zs w3 (hA.below hb3) hn).mono ?_
  rintro e w4 ⟨A4, c4, rfl, ho4, hb4'⟩
  have hb4 := hb3.trans (hb4'.mono hb3.size)
  go_wp2_with fail
  refine (isSortedInts_calls _ _ (sortI zs) w4 ho4.ints hn1).mono ?_
  rintro e w5 ⟨he5, hd5⟩
  rw [asc_sortI] at he5
  subst he5
  go_wp2
  go_ret
  exact ⟨rfl, hb4.trans hd5.below⟩
end Go.Proofs.Ytnondbhmoflpjaa
