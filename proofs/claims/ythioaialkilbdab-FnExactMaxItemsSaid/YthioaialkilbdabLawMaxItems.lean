/- The walk of FnExactMaxItems: it returns true and writes nothing that was there. -/
import Derived.Test.YthioaialkilbdabToItem
import Derived.Test.YthioaialkilbdabEqItem
import Derived.Test.YthioaialkilbdabMaxItems
import Derived.Test.YthioaialkilbdabSpecMaxItems
namespace Go.Proofs.Ythioaialkilbdab
open Go.RowKit

set_option maxHeartbeats 1600000 in
theorem lawMaxItems (A : Option Addr) (c : Nat) (zs : List (Int × Int)) (w : World) (hA : Items w A zs) (hn : zs.length * 16 ≤ 140737488351232) :
    Calls Try.prog 3 #[.slice A zs.length c] w fun e w' => e = .returned (.bool true) ∧ Below w.heap.size w w' := by
  by_cases h0 : 0 < zs.length
  · go_enter Try.func3, Try.ntmps3
    go_wp2_with fail
    refine (szItemS_calls A c zs.length w hn).mono ?_
    rintro e w0 ⟨n, hp, rfl, hd0⟩
    have HP := Lib.hid hp
    clear hp
    by_cases hneg : n < 0
    · go_wp2
      go_ret
      exact ⟨rfl, hd0.below⟩
    · have hb0 : Below w.heap.size w w0 := hd0.below
      go_wp2_with fail
      refine (toItemS_calls A c zs w0 (hA.below hb0) hn).mono ?_
      rintro e w1 ⟨rfl, hk1, hb1'⟩
      have hb1 := hb0.trans (hb1'.mono hb0.size)
      go_wp2_with fail
      refine (specMaxItems_some _ _ zs w1 hk1.items hn h0).mono ?_
      rintro e w2 ⟨i, hi, rfl, hd2⟩
      have hb2 := hb1.trans (hd2.mono hb1.size)
      have HI := Lib.hid hi
      clear hi
      have hb2' : Below w.heap.size w (w2.alloc (.cells #[.int .i64 (gk zs i), .int .i64 (gt zs i)] 25)) := hb2.alloc hb2.size _
      have hK2 : Blk (w2.alloc (.cells #[.int .i64 (gk zs i), .int .i64 (gt zs i)] 25)) w2.heap.size 25 #[.int .i64 (gk zs i), .int .i64 (gt zs i)] := Blk.new _ _ _
      go_wp2_with fail
      refine (toItemS_calls A c zs (w2.alloc (.cells #[.int .i64 (gk zs i), .int .i64 (gt zs i)] 25)) (hA.below hb2') hn).mono ?_
      rintro e w3 ⟨rfl, hk3q, hb3⟩
      have hk3 : Blk w3 (w2.heap.size + 1) 25 (itemCells zs) := by simpa using hk3q
      clear hk3q
      have hb3' := hb2'.trans (hb3.mono hb2'.size)
      have hK3 := hK2.below hb3 hK2.lt
      go_wp2_with fail
      refine (maxItems_some _ _ zs w3 hk3.items hn h0).mono ?_
      rintro e w4 ⟨j, hj, rfl, hd4⟩
      have hij := hj.unique HI.out
      subst hij
      have hb4 := hb3'.trans (hd4.mono (Nat.le_trans hb2'.size hb3.size))
      have hk4 := hk3.below hd4 hk3.lt
      have hK4 := hK3.below hd4 hK3.lt
      have hb4' : Below w.heap.size w (w4.alloc (.cells #[.int .i64 (gk zs j), .int .i64 (gt zs j)] 25)) := hb4.alloc hb4.size _
      have hk4' := hk4.alloc (.cells #[.int .i64 (gk zs j), .int .i64 (gt zs j)] 25)
      obtain ⟨q1, q2⟩ := (hK4.alloc (.cells #[.int .i64 (gk zs j), .int .i64 (gt zs j)] 25)).pair
      go_wp2_with fail
      refine (eqItem_t _ _ _).mono ?_
      rintro e w5 ⟨rfl, hd5⟩
      have hb5 := hb4'.trans (hd5.mono hb4'.size)
      have hk5 := hk4'.below hd5 hk4'.lt
      clear q1 q2
      go_wp2_with fail
      refine (toItemS_calls A c zs w5 (hA.below hb5) hn).mono ?_
      rintro e w6 ⟨rfl, hk6, hb6'⟩
      have hb6 := hb5.trans (hb6'.mono hb5.size)
      go_wp2_with fail
      refine (eqItemS_calls _ _ _ _ zs zs w6 ((hk5.below hb6' hk5.lt).items) hk6.items hn).mono ?_
      rintro e w7 ⟨rfl, hd7⟩
      go_wp2
      go_ret
      exact ⟨rfl, hb6.trans (hd7.mono hb6.size)⟩
  · obtain rfl : zs = [] := List.eq_nil_of_length_eq_zero (by omega)
    go_enter Try.func3, Try.ntmps3
    go_wp2_with fail
    refine (szItemS_calls A c 0 w hn).mono ?_
    rintro e w0 ⟨n, hp, rfl, hd0⟩
    have HP := Lib.hid hp
    clear hp
    by_cases hneg : n < 0
    · go_wp2
      go_ret
      exact ⟨rfl, hd0.below⟩
    · have hb0 : Below w.heap.size w w0 := hd0.below
      go_wp2_with fail
      refine (toItemS_calls A c [] w0 (hA.below hb0) hn).mono ?_
      rintro e w1 ⟨rfl, hk1, hb1'⟩
      have hb1 := hb0.trans (hb1'.mono hb0.size)
      go_wp2_with fail
      refine (specMaxItems_none _ _ w1).mono ?_
      rintro e w2 ⟨rfl, hd2⟩
      have hb2 := hb1.trans (hd2.mono hb1.size)
      have hb2' : Below w.heap.size w (w2.alloc (.cells #[.int .i64 0, .int .i64 0] 25)) := hb2.alloc hb2.size _
      have hK2 : Blk (w2.alloc (.cells #[.int .i64 0, .int .i64 0] 25)) w2.heap.size 25 #[.int .i64 0, .int .i64 0] := Blk.new _ _ _
      go_wp2_with fail
      refine (toItemS_calls A c [] _ (hA.below hb2') hn).mono ?_
      rintro e w3 ⟨rfl, hk3q, hb3⟩
      have hk3 : Blk w3 (w2.heap.size + 1) 25 (itemCells []) := by simpa using hk3q
      clear hk3q
      have hb3' := hb2'.trans (hb3.mono hb2'.size)
      have hK3 := hK2.below hb3 hK2.lt
      go_wp2_with fail
      refine (maxItems_none _ _ w3).mono ?_
      rintro e w4 ⟨rfl, hd4⟩
      have hb4 := hb3'.trans (hd4.mono (Nat.le_trans hb2'.size hb3.size))
      have hk4 := hk3.below hd4 hk3.lt
      have hK4 := hK3.below hd4 hK3.lt
      have hb4' : Below w.heap.size w (w4.alloc (.cells #[.int .i64 0, .int .i64 0] 25)) := hb4.alloc hb4.size _
      have hk4' := hk4.alloc (.cells #[.int .i64 0, .int .i64 0] 25)
      obtain ⟨q1, q2⟩ := (hK4.alloc (.cells #[.int .i64 0, .int .i64 0] 25)).pair
      go_wp2_with fail
      refine (eqItem_t _ _ _).mono ?_
      rintro e w5 ⟨rfl, hd5⟩
      have hb5 := hb4'.trans (hd5.mono hb4'.size)
      have hk5 := hk4'.below hd5 hk4'.lt
      clear q1 q2
      go_wp2_with fail
      refine (toItemS_calls A c [] w5 (hA.below hb5) hn).mono ?_
      rintro e w6 ⟨rfl, hk6, hb6'⟩
      have hb6 := hb5.trans (hb6'.mono hb5.size)
      go_wp2_with fail
      refine (eqItemS_calls _ _ _ _ [] [] w6 ((hk5.below hb6' hk5.lt).items) hk6.items hn).mono ?_
      rintro e w7 ⟨rfl, hd7⟩
      go_wp2
      go_ret
      exact ⟨rfl, hb6.trans (hd7.mono hb6.size)⟩
end Go.Proofs.Ythioaialkilbdab
