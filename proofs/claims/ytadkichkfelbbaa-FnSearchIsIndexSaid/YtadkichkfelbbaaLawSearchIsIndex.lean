/- The walk of FnSearchIsIndex. -/
import Derived.Test.YtadkichkfelbbaaBinInts
import Derived.Test.YtadkichkfelbbaaAscending
import Derived.Test.YtadkichkfelbbaaCountInt
import Derived.Test.YtadkichkfelbbaaIndexInts
namespace Go.Proofs.Ytadkichkfelbbaa
open Go.RowKit

set_option maxHeartbeats 400000 in
theorem lawSearchIsIndex (A : Option Addr) (c : Nat) (zs : List Int) (v : Int) (w : World) (hA : Ints w A zs) (hn : zs.length * 8 ≤ 140737488351232) :
    Calls Try.prog 7 #[.slice A zs.length c, .int .i64 v] w fun e w' => e = .returned (.bool true) ∧ Below w.heap.size w w' := by
  go_enter Try.func7, Try.ntmps7
  go_wp2_with fail
  refine (ascending_calls _ _ zs w hA hn).mono ?_
  rintro e w1 ⟨rfl, hd1⟩
  cases ha : ascB zs with
  | false =>
    clear ha
    go_wp2
    go_ret
    exact ⟨rfl, hd1.below⟩
  | true =>
    have HA := Lib.hid ha
    clear ha
    go_wp2_with fail
    have hcall := binarySearchInts_asc A c zs v w1 (hA.below hd1.below) hn HA.out
    cases hh : hasB zs v with
    | false =>
      rw [hh] at hcall
      have HN := Lib.hid (hasB_false hh)
      have hcnt : cntI zs v = 0 := List.count_eq_zero.2 (fun hm => by
        obtain ⟨j, hj, e⟩ := List.mem_iff_getElem.1 hm
        exact HN.out j hj (by rw [gi_eq hj]; exact e))
      clear hh
      refine hcall.mono ?_
      clear hcall
      rintro e w2 ⟨rfl, hd2⟩
      go_wp2_with fail
      refine (containsInt_none _ _ zs v w2 (hA.below (hd1.trans hd2).below) hn HN.out).mono ?_
      rintro e w3 ⟨rfl, hd3⟩
      have hd3' := (hd1.trans hd2).trans hd3
      go_wp2_with fail
      have hcc := countInt_calls A c zs v w3 (hA.below hd3'.below) hn
      rw [hcnt] at hcc
      refine hcc.mono ?_
      clear hcc hcnt
      rintro e w4 ⟨rfl, hd4⟩
      go_wp2
      go_ret
      exact ⟨rfl, (hd3'.trans hd4).below⟩
    | true =>
      obtain ⟨p, hp⟩ := hasB_true hh
      have hl := hp.less HA.out
      rw [hh, hl] at hcall
      have HP := Lib.hid hp
      obtain ⟨m, hm, hm0⟩ : ∃ m, cntI zs v = m ∧ 0 < m := ⟨_, rfl, List.count_pos_iff.2 (by rw [← hp.2.1]; exact gi_mem hp.1)⟩
      have hmle : m ≤ zs.length := by rw [← hm]; exact List.count_le_length
      clear hh hp hl
      refine hcall.mono ?_
      clear hcall
      rintro e w2 ⟨rfl, hd2⟩
      go_wp2_with fail
      refine (containsInt_some _ _ zs v p w2 (hA.below (hd1.trans hd2).below) hn HP.out).mono ?_
      rintro e w3 ⟨rfl, hd3⟩
      have hd3' := (hd1.trans hd2).trans hd3
      go_wp2_with fail
      have hcc := countInt_calls A c zs v w3 (hA.below hd3'.below) hn
      rw [hm] at hcc
      refine hcc.mono ?_
      clear hcc hm
      rintro e w4 ⟨rfl, hd4⟩
      have hd4' := hd3'.trans hd4
      have hq : (0 : Int) < m := by omega
      go_wp2_with fail
      refine (indexInt_some _ _ zs v p w4 (hA.below hd4'.below) hn HP.out).mono ?_
      rintro e w5 ⟨rfl, hd5⟩
      go_wp2
      go_ret
      exact ⟨rfl, (hd4'.trans hd5).below⟩
end Go.Proofs.Ytadkichkfelbbaa
