/- The walk of FnSortByOrder. -/
import Derived.Test.YtfapllhjccpfpaaSortByOrder
import Derived.Test.YtfapllhjccpfpaaToOrder
import Derived.Test.YtfapllhjccpfpaaWeak
import Derived.Test.YtfapllhjccpfpaaInOrder
import Derived.Test.YtfapllhjccpfpaaSameNumbers
namespace Go.Proofs.Ytfapllhjccpfpaa
open Go.RowKit

set_option maxHeartbeats 1600000 in
set_option maxRecDepth 1000000 in
theorem lawSortByOrder (A B : Option Addr) (c d : Nat) (zs : List Int) (sz : Int) (bs : List Bool) (w : World) (hA : Ints w A zs) (hn : zs.length * 8 ≤ 140737488351232) (hB : Bools w B bs) (hbn : bs.length ≤ 140737488351232) (hsz : sz < 9223372036854775808) :
    Calls Try.prog 6 #[.slice A zs.length c, .agg #[.int .i64 sz, .slice B bs.length d]] w fun e w' => e = .returned (.bool true) ∧ Below w.heap.size w w' := by
  obtain ⟨w0, hw0⟩ : ∃ w0, w0 = w.alloc (.cells #[.int .i64 sz, .slice B bs.length d] 25) := ⟨_, rfl⟩
  have hb0 : Below w.heap.size w w0 := by rw [hw0]; exact (Below.refl _ _).alloc (Nat.le_refl _) _
  have hK0 : Blk w0 w.heap.size 25 #[.int .i64 sz, .slice B bs.length d] := by rw [hw0]; exact Blk.new _ _ _
  have hA0 := hA.below hb0
  have hB0 := hB.below hb0
  have hc1 := weak_calls A B c d zs sz bs w0 hA0 hn hB0 hbn hsz
  generalize hg : w.heap.size = g0 at hK0
  go_enter Try.func6, Try.ntmps6
  go_wp2_with fail
  rw [← hw0]
  refine hc1.mono ?_
  clear hc1
  rintro e w1 ⟨r, hr, rfl, hG1⟩
  have hb1 := hG1.below
  have HB1 := Lib.hid (show Below w.heap.size w w1 from hb0.trans (hb1.mono hb0.size))
  cases r with
  | false =>
    clear hr
    go_wp2
    go_ret
    exact ⟨rfl, by rw [← hg]; exact HB1.out⟩
  | true =>
    have HW := Lib.hid (hr rfl)
    have hK1 := hK0.below hb1 hK0.lt
    have hA1 := hA0.below hb1
    have hB1 := hB0.below hb1
    obtain ⟨k0, k1⟩ := hK1.pair
    clear hr hK0 hA0 hB0 hA hB hG1 hb1 hb0 hw0
    go_wp2_with fail
    refine (toOrder_calls sz B d bs w1 hB1 hbn).mono ?_
    rintro e w2 ⟨B2, d2, rfl, hB2, hb2⟩
    have hA2 := hA1.below hb2
    go_wp2_with fail
    refine (sortByOrder_weak A c zs sz B2 d2 bs w2 hA2 hn hB2 hbn hsz HW.out).mono ?_
    rintro e w3 ⟨ys, hp, hs, A3, c3, rfl, ho3, hb3'⟩
    have hb3 := hb2.trans (hb3'.mono hb2.size)
    have HP := Lib.hid (show ys.Perm zs ∧ Srt (rel sz bs) ys from ⟨hp, hs⟩)
    have hny : ys.length * 8 ≤ 140737488351232 := by rw [hp.length_eq]; exact hn
    obtain ⟨q0, q1⟩ := (hK1.below hb3 hK1.lt).pair
    have hA3 := hA1.below hb3
    have hB3 := hB1.below hb3
    have hI3 := ho3.ints
    clear hp hs k0 k1 ho3
    go_wp2_with fail
    refine (inOrder_true A3 B c3 d ys sz bs w3 hI3 hny hB3 hbn hsz HP.out.2).mono ?_
    rintro e w4 ⟨rfl, hG4⟩
    have hb4 := hG4.below
    clear q0 q1
    go_wp2_with fail
    refine (sameNumbers_perm A A3 c c3 zs ys w4 (hA3.below hb4) (hI3.below hb4) hn HP.out.1.symm).mono ?_
    rintro e w5 ⟨rfl, hd5⟩
    have hbF : Below w.heap.size w w5 := by
      have h4 := hb3.trans (hb4.mono hb3.size)
      have h5 := h4.trans (hd5.below.mono h4.size)
      exact HB1.out.trans (h5.mono HB1.out.size)
    go_wp2
    go_ret
    exact ⟨rfl, by rw [← hg]; exact hbF⟩
end Go.Proofs.Ytfapllhjccpfpaa
