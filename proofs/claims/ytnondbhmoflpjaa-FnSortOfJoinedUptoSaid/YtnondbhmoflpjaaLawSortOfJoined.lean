/- The walk of FnSortOfJoined, for lists whose lengths add up to what memory bears. -/
import Derived.Test.YtnondbhmoflpjaaSortInts
import Derived.Test.YtnondbhmoflpjaaSameInts
import Derived.Test.YtnondbhmoflpjaaJoined
namespace Go.Proofs.Ytnondbhmoflpjaa
open Go.RowKit

theorem sort_joined (xs ys : List Int) : sortI (sortI ys ++ sortI xs) = sortI (xs ++ ys) :=
  sortI_of_perm (((perm_sortI ys).append (perm_sortI xs)).trans List.perm_append_comm)

set_option maxHeartbeats 800000 in
theorem lawSortOfJoined (A B : Option Addr) (c d : Nat) (xs ys : List Int) (w : World) (hA : Ints w A xs) (hB : Ints w B ys) (hn : (xs.length + ys.length) * 8 ≤ 140737488351232) :
    Calls Try.prog 8 #[.slice A xs.length c, .slice B ys.length d] w fun e w' => e = .returned (.bool true) ∧ Below w.heap.size w w' := by
  obtain ⟨L, hL⟩ : ∃ L, L = xs ++ ys := ⟨_, rfl⟩
  obtain ⟨M, hM⟩ : ∃ M, M = sortI ys ++ sortI xs := ⟨_, rfl⟩
  have hLl : L.length = xs.length + ys.length := by rw [hL, List.length_append]
  have hsy : (sortI ys).length = ys.length := length_sortI ys
  have hsx : (sortI xs).length = xs.length := length_sortI xs
  have hMl : M.length = ys.length + xs.length := by rw [hM, List.length_append, hsy, hsx]
  have hl1 : (sortI L).length = xs.length + ys.length := by rw [length_sortI, hLl]
  have hq : (((sortI L).length : Int) == (xs.length : Int) + (ys.length : Int)) = true := by rw [hl1]; simp
  have hj : L.length * 8 ≤ 140737488351232 := by omega
  have hn1 : (sortI L).length * 8 ≤ 140737488351232 := by omega
  have hn2 : ((sortI ys).length + (sortI xs).length) * 8 ≤ 140737488355328 := by omega
  have hj2 : M.length * 8 ≤ 140737488351232 := by omega
  have hxx : xs.length * 8 ≤ 140737488351232 := by omega
  have hyy : ys.length * 8 ≤ 140737488351232 := by omega
  have hnj : (xs.length + ys.length) * 8 ≤ 140737488355328 := by omega
  have HL := Lib.hid hL
  have HM := Lib.hid hM
  have HS := Lib.hid (show sortI M = sortI L by rw [hM, hL]; exact sort_joined xs ys)
  clear hl1 hsy hsx hL hM hLl hMl
  go_enter Try.func8, Try.ntmps8
  go_wp2_with fail
  have hc1 := joined_calls _ _ c d xs ys w hA hB hnj
  rw [← HL.out] at hc1
  refine hc1.mono ?_
  clear hc1
  rintro e w1 ⟨A1, c1, rfl, ho1, hb1⟩
  go_wp2_with fail
  refine (sortInts_calls _ _ L w1 ho1.ints hj).mono ?_
  rintro e w2 ⟨A2, c2, rfl, ho2, hb2'⟩
  have hb2 := hb1.trans (hb2'.mono hb1.size)
  go_wp2_with fail
  refine (sortInts_calls _ _ ys w2 (hB.below hb2) hyy).mono ?_
  rintro e w3 ⟨A3, c3, rfl, ho3, hb3'⟩
  have hb3 := hb2.trans (hb3'.mono hb2.size)
  go_wp2_with fail
  refine (sortInts_calls _ _ xs w3 (hA.below hb3) hxx).mono ?_
  rintro e w4 ⟨A4, c4, rfl, ho4, hb4'⟩
  have hb4 := hb3.trans (hb4'.mono hb3.size)
  go_wp2_with fail
  have hc5 := joined_calls _ _ c3 c4 (sortI ys) (sortI xs) w4 (ho3.ints.below hb4') ho4.ints hn2
  rw [← HM.out] at hc5
  refine hc5.mono ?_
  clear hc5
  rintro e w5 ⟨A5, c5, rfl, ho5, hb5'⟩
  have hb5 := hb4.trans (hb5'.mono hb4.size)
  go_wp2_with fail
  refine (sortInts_calls _ _ M w5 ho5.ints hj2).mono ?_
  rintro e w6 ⟨A6, c6, rfl, ho6, hb6'⟩
  have hb6 := hb5.trans (hb6'.mono hb5.size)
  have hI2 : Ints w6 A2 (sortI L) := (((ho2.ints.below hb3').below hb4').below hb5').below hb6'
  have hI6 := ho6.ints
  go_wp2_with fail
  refine (sameInts_calls _ _ _ _ (sortI L) (sortI M) w6 hI2 hI6 hn1).mono ?_
  rintro e w7 ⟨he7, hd7⟩
  rw [HS.out, decide_eq_true rfl] at he7
  subst he7
  go_wp2
  go_ret
  exact ⟨rfl, hb6.trans hd7.below⟩
end Go.Proofs.Ytnondbhmoflpjaa
