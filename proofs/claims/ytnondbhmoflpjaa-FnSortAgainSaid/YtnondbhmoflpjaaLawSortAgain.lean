/- The walk of FnSortAgain. -/
import Derived.Test.YtnondbhmoflpjaaSortInts
import Derived.Test.YtnondbhmoflpjaaSameInts
namespace Go.Proofs.Ytnondbhmoflpjaa
open Go.RowKit

set_option maxHeartbeats 400000 in
theorem lawSortAgain (A : Option Addr) (c : Nat) (zs : List Int) (w : World) (hA : Ints w A zs) (hn : zs.length * 8 ≤ 140737488351232) :
    Calls Try.prog 4 #[.slice A zs.length c] w fun e w' => e = .returned (.bool true) ∧ Below w.heap.size w w' := by
  have hl := length_sortI zs
  have hn1 : (sortI zs).length * 8 ≤ 140737488351232 := by rw [hl]; exact hn
  have hn2 : (sortI (sortI zs)).length * 8 ≤ 140737488351232 := by rw [sortI_idem, hl]; exact hn
  have hq : (((sortI zs).length : Int) == (zs.length : Int)) = true := by rw [hl]; simp
  have HL := Lib.hid hl
  clear hl
  go_enter Try.func4, Try.ntmps4
  go_wp2_with fail
  refine (sortInts_calls _ _ zs w hA hn).mono ?_
  rintro e w1 ⟨A1, c1, rfl, ho1, hb1⟩
  go_wp2_with fail
  refine (sortInts_calls _ _ (sortI zs) w1 ho1.ints hn1).mono ?_
  rintro e w2 ⟨A2, c2, rfl, ho2, hb2⟩
  go_wp2_with fail
  refine (sameInts_calls _ _ _ _ (sortI (sortI zs)) (sortI zs) w2 ho2.ints (ho1.ints.below hb2) hn2).mono ?_
  rintro e w3 ⟨rfl, hd3⟩
  have hfin : Hid (decide (sortI (sortI zs) = sortI zs) = true) := decide_eq_true (sortI_idem zs)
  go_wp2
  go_ret
  exact ⟨ret_bool hfin.out, (hb1.trans (hb2.mono hb1.size)).trans hd3.below⟩
end Go.Proofs.Ytnondbhmoflpjaa
