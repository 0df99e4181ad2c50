/- The walk of FnExactStableItems: it returns true and writes nothing that was there. -/
import Derived.Test.YtnjnphoidjachaaToItem
import Derived.Test.YtnjnphoidjachaaEqItem
import Derived.Test.YtnjnphoidjachaaIsort
import Derived.Test.YtnjnphoidjachaaStableItems
import Derived.Test.YtnjnphoidjachaaSpecStable
import Derived.Test.YtnjnphoidjachaaMarkItems
namespace Go.Proofs.Ytnjnphoidjachaa
open Go.RowKit

theorem items_of_cur {w : World} {g : Nat} {t : TypeId} {cur : Array Value} {zs : List (Int × Int)} (h : Blk w g t cur) (hc : cur.toList.take (zs.length * 2) = pairCells zs) : Items w (some ⟨g, 0, none⟩) zs :=
  fun _ => ⟨g, 0, rfl, h.lt, fun i hi => by rw [Nat.zero_add, h.cell, h.cell]; exact cells_of_take hc hi⟩

set_option maxHeartbeats 3200000 in
theorem lawExactStableItems_some (A : Option Addr) (c : Nat) (zs : List (Int × Int)) (w : World) (hA : Items w A zs) (hn : zs.length * 16 ≤ 140737488351232) (h0 : 0 < zs.length) :
    Calls Try.prog 8 #[.slice A zs.length c] w fun e w' => e = .returned (.bool true) ∧ Below w.heap.size w w' := by
  obtain ⟨S, hS⟩ : ∃ S, S = isort ltK zs := ⟨_, rfl⟩
  have hl : S.length = zs.length := by rw [hS]; exact (isort_perm zs).length_eq
  have hnS : S.length * 16 ≤ 140737488351232 := by omega
  have HL := Lib.hid hl
  have HS := Lib.hid hS
  clear hl hS
  have hq : (((S.length : Int) * 2 + 1) != ((S.length : Int) * 2 + 1)) = false := by simp
  have h0S : 0 < S.length := by rw [HL.out]; exact h0
  go_enter Try.func8, Try.ntmps8
  go_wp2_with fail
  refine (szItemS_calls A c zs.length w hn).mono ?_
  rintro e w0 ⟨nn, hpn, rfl, hd0⟩
  have hb0 : Below w.heap.size w w0 := hd0.below
  by_cases hneg : nn < 0
  · clear hpn
    go_wp2
    go_ret
    exact ⟨rfl, hb0⟩
  have hbig : zs.length ≤ 1048576 := hpn (Int.not_lt.1 hneg)
  have hbigS : S.length ≤ 1048576 := by rw [HL.out]; exact hbig
  clear hpn
  go_wp2_with fail
  refine (toItemS_calls A c zs w0 (hA.below hb0) hn).mono ?_
  rintro e w1 ⟨rfl, hk1, hb1'⟩
  have hb1 := hb0.trans (hb1'.mono hb0.size)
  go_wp2_with fail
  have hc2 := specStableItems_calls _ zs.length zs _ w1 hk1.items hn (stable_isort (weak_K _))
  rw [← HS.out] at hc2
  refine hc2.mono ?_
  clear hc2
  rintro e w2 ⟨he2, hk2, hb2'⟩
  rw [← HL.out] at he2
  subst he2
  have hb2 := hb1.trans (hb2'.mono hb1.size)
  go_wp2_with fail
  refine (toItemS_calls A c zs w2 (hA.below hb2) hn).mono ?_
  rintro e w3 ⟨rfl, hk3, hb3'⟩
  have hb3 := hb2.trans (hb3'.mono hb2.size)
  have hw3 := hk2.below hb3' hk2.lt
  go_wp2_with fail
  have hc4 := stableItems_is _ zs.length zs w3 hk3.items hn
  rw [← HS.out] at hc4
  refine hc4.mono ?_
  clear hc4
  rintro e w4 ⟨A4, c4, rfl, ho4, hb4'⟩
  have hb4 := hb3.trans (hb4'.mono hb3.size)
  obtain ⟨g, cur, rfl, hgg, hG4, hcap, _, hcs, hcur⟩ := ho4.block h0S
  have HCU := Lib.hid hcur
  have hcs' : S.length * 2 ≤ cur.size := by omega
  clear hcur hcs ho4 hcap
  have hW4 := hw3.below hb4' hw3.lt
  have hX4 := hk3.below hb4' hk3.lt
  have hltX : w2.heap.size < g := Nat.lt_of_lt_of_le hk3.lt hgg
  have hltW : w1.heap.size < g := Nat.lt_of_lt_of_le hw3.lt hgg
  have hWX : w1.heap.size < w2.heap.size := hk2.lt
  have hX0 : w.heap.size ≤ w2.heap.size := hb2.size
  have hg0 : w.heap.size ≤ g := by omega
  go_wp2_with fail
  refine (eqItemS_calls (some ⟨g, 0, none⟩) (some ⟨w1.heap.size, 0, none⟩) c4 S.length S S w4 (items_of_cur hG4 HCU.out) hW4.items hnS).mono ?_
  rintro e w5 ⟨rfl, hd5⟩
  have hb5 := hb4.trans (hd5.mono hb4.size)
  have hG5 := hG4.below hd5 hG4.lt
  have hW5 := hW4.below hd5 hW4.lt
  have hX5 := hX4.below hd5 hX4.lt
  clear hG4 hW4 hX4
  go_wp2_with fail
  refine (toItemS_calls A c zs w5 (hA.below hb5) hn).mono ?_
  rintro e w6 ⟨rfl, hk6, hb6'⟩
  have hb6 := hb5.trans (hb6'.mono hb5.size)
  have hG6 := hG5.below hb6' hG5.lt
  have hW6 := hW5.below hb6' hW5.lt
  have hX6 := hX5.below hb6' hX5.lt
  clear hG5 hW5 hX5
  go_wp2_with fail
  refine (eqItemS_calls _ _ _ _ zs zs w6 hX6.items hk6.items hn).mono ?_
  rintro e w7 ⟨rfl, hd7⟩
  have hb7 := hb6.trans (hd7.mono hb6.size)
  have hG7 := hG6.below hd7 hG6.lt
  have hW7 := hW6.below hd7 hW6.lt
  have hX7 := hX6.below hd7 hX6.lt
  clear hG6 hW6 hX6 hk6
  go_wp2_with fail
  refine (markItemS_calls w2.heap.size zs.length zs.length w7 (Marked.of_blk hX7 (by rw [size_itemCells]; exact Nat.le_refl _)) hn).mono ?_
  rintro e w8 ⟨rfl, _, hgr8⟩
  have hb8 : Below w.heap.size w w8 := hb7.grown hgr8 hb7.size (fun k h => by cases h; exact hX0)
  have hG8 := hG7.grown hgr8 (by intro h; cases h; omega)
  have hW8 := hW7.grown hgr8 (by intro h; have := Option.some.inj h; omega)
  clear hG7 hW7 hX7 hgr8
  go_wp2_with fail
  refine (eqItemS_calls (some ⟨g, 0, none⟩) (some ⟨w1.heap.size, 0, none⟩) c4 S.length S S w8 (items_of_cur hG8 HCU.out) hW8.items hnS).mono ?_
  rintro e w9 ⟨rfl, hd9⟩
  have hb9 := hb8.trans (hd9.mono hb8.size)
  have hG9 := hG8.below hd9 hG8.lt
  have hW9 := hW8.below hd9 hW8.lt
  clear hG8 hW8
  go_wp2_with fail
  refine (markItemS_calls g c4 S.length w9 (Marked.of_blk hG9 hcs') hnS).mono ?_
  rintro e w10 ⟨rfl, hM10, hgr10⟩
  have hb10 : Below w.heap.size w w10 := hb9.grown hgr10 hb9.size (fun k h => by cases h; exact hg0)
  have hW10 := hW9.grown hgr10 (by intro h; have := Option.some.inj h; omega)
  have hI10 := hM10.ints (Nat.lt_of_lt_of_le hG9.lt hgr10.size)
  clear hG9 hW9 hgr10 hM10
  go_wp2_with fail
  refine (heldItemS_calls (some ⟨g, 0, none⟩) c4 S.length w10 hI10 hnS).mono ?_
  rintro e w11 ⟨rfl, hd11⟩
  have hb11 := hb10.trans hd11.below
  have hI11 := hI10.below hd11.below
  have hW11 := hW10.below (hd11.below (B := w10.heap.size)) hW10.lt
  clear hI10 hW10
  go_wp2_with fail
  refine (toItemS_calls A c zs w11 (hA.below hb11) hn).mono ?_
  rintro e w12 ⟨rfl, hk12, hb12'⟩
  have hb12 := hb11.trans (hb12'.mono hb11.size)
  have hI12 := hI11.below hb12'
  have hW12 := hW11.below hb12' hW11.lt
  clear hI11 hW11
  go_wp2_with fail
  have hc13 := stableItems_is _ zs.length zs w12 hk12.items hn
  rw [← HS.out] at hc13
  refine hc13.mono ?_
  clear hc13
  rintro e w13 ⟨A13, c13, rfl, ho13, hb13'⟩
  have hb13 := hb12.trans (hb13'.mono hb12.size)
  have hI13 := hI12.below hb13'
  have hW13 := hW12.below hb13' hW12.lt
  clear hI12 hW12
  go_wp2_with fail
  refine (eqItemS_calls A13 (some ⟨w1.heap.size, 0, none⟩) c13 S.length S S w13 ho13.items hW13.items hnS).mono ?_
  rintro e w14 ⟨rfl, hd14⟩
  have hb14 := hb13.trans (hd14.mono hb13.size)
  have hI14 := hI13.below hd14
  clear hI13 hW13 ho13
  go_wp2_with fail
  refine (heldItemS_calls (some ⟨g, 0, none⟩) c4 S.length w14 hI14 hnS).mono ?_
  rintro e w15 ⟨rfl, hd15⟩
  have hb15 := hb14.trans hd15.below
  go_wp2
  go_ret
  exact ⟨rfl, hb15⟩

set_option maxHeartbeats 1600000 in
theorem lawExactStableItems_none (A : Option Addr) (c : Nat) (w : World) (hA : Items w A []) :
    Calls Try.prog 8 #[.slice A 0 c] w fun e w' => e = .returned (.bool true) ∧ Below w.heap.size w w' := by
  have hn : ([] : List (Int × Int)).length * 16 ≤ 140737488351232 := by simp
  have HS := Lib.hid (show isort ltK [] = [] from rfl)
  go_enter Try.func8, Try.ntmps8
  go_wp2_with fail
  refine (szItemS_calls A c 0 w hn).mono ?_
  rintro e w0 ⟨nn, hpn, rfl, hd0⟩
  have hb0 : Below w.heap.size w w0 := hd0.below
  clear hpn
  by_cases hneg : nn < 0
  · go_wp2
    go_ret
    exact ⟨rfl, hb0⟩
  go_wp2_with fail
  refine (toItemS_calls A c [] w0 (hA.below hb0) hn).mono ?_
  rintro e w1 ⟨rfl, hk1, hb1'⟩
  have hb1 := hb0.trans (hb1'.mono hb0.size)
  go_wp2_with fail
  have hc2 := specStableItems_calls _ 0 [] _ w1 hk1.items hn (stable_isort (weak_K _))
  rw [HS.out] at hc2
  refine hc2.mono ?_
  clear hc2
  rintro e w2 ⟨rfl, hk2, hb2'⟩
  have hb2 := hb1.trans (hb2'.mono hb1.size)
  go_wp2_with fail
  refine (toItemS_calls A c [] w2 (hA.below hb2) hn).mono ?_
  rintro e w3 ⟨rfl, hk3, hb3'⟩
  have hb3 := hb2.trans (hb3'.mono hb2.size)
  go_wp2_with fail
  have hc4 := stableItems_is _ 0 [] w3 hk3.items hn
  rw [HS.out] at hc4
  refine hc4.mono ?_
  clear hc4
  rintro e w4 ⟨A4, c4, rfl, ho4, hb4'⟩
  have hb4 := hb3.trans (hb4'.mono hb3.size)
  have hn0 : ∀ (W : World) (B : Option Addr), Items W B [] := fun W B h => absurd h (by simp)
  go_wp2_with fail
  refine (eqItemS_calls _ _ _ _ [] [] w4 (hn0 _ _) (hn0 _ _) hn).mono ?_
  rintro e w5 ⟨rfl, hd5⟩
  have hb5 := hb4.trans (hd5.mono hb4.size)
  go_wp2_with fail
  refine (toItemS_calls A c [] w5 (hn0 _ _) hn).mono ?_
  rintro e w6 ⟨rfl, hk6, hb6'⟩
  have hb6 := hb5.trans (hb6'.mono hb5.size)
  go_wp2_with fail
  refine (eqItemS_calls _ _ _ _ [] [] w6 (hn0 _ _) (hn0 _ _) hn).mono ?_
  rintro e w7 ⟨rfl, hd7⟩
  have hb7 := hb6.trans (hd7.mono hb6.size)
  go_wp2_with fail
  refine (markItemS_none _ _ w7).mono ?_
  rintro e w8 ⟨rfl, rfl⟩
  go_wp2_with fail
  refine (eqItemS_calls _ _ _ _ [] [] w7 (hn0 _ _) (hn0 _ _) hn).mono ?_
  rintro e w9 ⟨rfl, hd9⟩
  have hb9 := hb7.trans (hd9.mono hb7.size)
  go_wp2_with fail
  refine (markItemS_none _ _ w9).mono ?_
  rintro e w10 ⟨rfl, rfl⟩
  go_wp2_with fail
  refine (heldItemS_calls _ _ 0 w9 (fun h => absurd h (by simp [marks])) (by omega)).mono ?_
  rintro e w11 ⟨rfl, hd11⟩
  have hb11 := hb9.trans hd11.below
  go_wp2_with fail
  refine (toItemS_calls A c [] w11 (hn0 _ _) hn).mono ?_
  rintro e w12 ⟨rfl, hk12, hb12'⟩
  have hb12 := hb11.trans (hb12'.mono hb11.size)
  go_wp2_with fail
  have hc13 := stableItems_is _ 0 [] w12 hk12.items hn
  rw [HS.out] at hc13
  refine hc13.mono ?_
  clear hc13
  rintro e w13 ⟨A13, c13, rfl, ho13, hb13'⟩
  have hb13 := hb12.trans (hb13'.mono hb12.size)
  go_wp2_with fail
  refine (eqItemS_calls _ _ _ _ [] [] w13 (hn0 _ _) (hn0 _ _) hn).mono ?_
  rintro e w14 ⟨rfl, hd14⟩
  have hb14 := hb13.trans (hd14.mono hb13.size)
  go_wp2_with fail
  refine (heldItemS_calls _ _ 0 w14 (fun h => absurd h (by simp [marks])) (by omega)).mono ?_
  rintro e w15 ⟨rfl, hd15⟩
  have hb15 := hb14.trans hd15.below
  go_wp2
  go_ret
  exact ⟨rfl, hb15⟩

theorem lawExactStableItems (A : Option Addr) (c : Nat) (zs : List (Int × Int)) (w : World) (hA : Items w A zs) (hn : zs.length * 16 ≤ 140737488351232) :
    Calls Try.prog 8 #[.slice A zs.length c] w fun e w' => e = .returned (.bool true) ∧ Below w.heap.size w w' := by
  rcases Nat.eq_zero_or_pos zs.length with h0 | h0
  · obtain rfl : zs = [] := List.eq_nil_of_length_eq_zero h0
    exact lawExactStableItems_none A c w hA
  · exact lawExactStableItems_some A c zs w hA hn h0
end Go.Proofs.Ytnjnphoidjachaa
