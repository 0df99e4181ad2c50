/- The walk of FnMinOfJoined, for lists whose lengths add up to what memory bears. -/
import Derived.Test.YtadkichkfelbbaaMinInts
import Derived.Test.YtadkichkfelbbaaMaxInts
import Derived.Test.YtadkichkfelbbaaJoined
namespace Go.Proofs.Ytadkichkfelbbaa
open Go.RowKit

theorem min_joined {xs ys : List Int} (hx : 0 < xs.length) (hy : 0 < ys.length) : (minI (xs ++ ys) = minI xs ∨ minI (xs ++ ys) = minI ys) ∧ minI (xs ++ ys) ≤ minI xs ∧ minI (xs ++ ys) ≤ minI ys := by
  have h1 := isMin_minI (zs := xs) (by intro e; subst e; simp at hx)
  have h2 := isMin_minI (zs := ys) (by intro e; subst e; simp at hy)
  have h3 := isMin_minI (zs := xs ++ ys) (by intro e; simp at e; simp [e.1] at hx)
  have a1 := h3.2 _ (List.mem_append_left ys h1.1)
  have a2 := h3.2 _ (List.mem_append_right xs h2.1)
  refine ⟨?_, a1, a2⟩
  rcases List.mem_append.1 h3.1 with h | h
  · exact .inl (Int.le_antisymm a1 (h1.2 _ h))
  · exact .inr (Int.le_antisymm a2 (h2.2 _ h))
theorem max_joined {xs ys : List Int} (hx : 0 < xs.length) (hy : 0 < ys.length) : (maxI (xs ++ ys) = maxI xs ∨ maxI (xs ++ ys) = maxI ys) ∧ maxI xs ≤ maxI (xs ++ ys) ∧ maxI ys ≤ maxI (xs ++ ys) := by
  have h1 := isMax_maxI (zs := xs) (by intro e; subst e; simp at hx)
  have h2 := isMax_maxI (zs := ys) (by intro e; subst e; simp at hy)
  have h3 := isMax_maxI (zs := xs ++ ys) (by intro e; simp at e; simp [e.1] at hx)
  have a1 := h3.2 _ (List.mem_append_left ys h1.1)
  have a2 := h3.2 _ (List.mem_append_right xs h2.1)
  refine ⟨?_, a1, a2⟩
  rcases List.mem_append.1 h3.1 with h | h
  · exact .inl (Int.le_antisymm (h1.2 _ h) a1)
  · exact .inr (Int.le_antisymm (h2.2 _ h) a2)

set_option maxHeartbeats 3200000 in
theorem lawMinOfJoined (A B : Option Addr) (c d : Nat) (xs ys : List Int) (w : World) (hA : Ints w A xs) (hB : Ints w B ys) (hn : (xs.length + ys.length) * 8 ≤ 140737488351232) :
    Calls Try.prog 6 #[.slice A xs.length c, .slice B ys.length d] w fun e w' => e = .returned (.bool true) ∧ Below w.heap.size w w' := by
  by_cases hx : xs.length = 0
  · have hq : ((xs.length : Int) == 0) = true := by simp [hx]
    go_enter Try.func6, Try.ntmps6
    go_wp2
    go_ret
    exact ⟨rfl, Below.refl _ _⟩
  by_cases hy : ys.length = 0
  · have hq1 : ((xs.length : Int) == 0) = false := by simp; intro h; simp [h] at hx
    have hq : ((ys.length : Int) == 0) = true := by simp [hy]
    go_enter Try.func6, Try.ntmps6
    go_wp2
    go_ret
    exact ⟨rfl, Below.refl _ _⟩
  have hx0 : 0 < xs.length := by omega
  have hy0 : 0 < ys.length := by omega
  have hq1 : ((xs.length : Int) == 0) = false := by simp; intro h; simp [h] at hx
  have hq2 : ((ys.length : Int) == 0) = false := by simp; intro h; simp [h] at hy
  obtain ⟨L, hL⟩ : ∃ L, L = xs ++ ys := ⟨_, rfl⟩
  have hLl : L.length = xs.length + ys.length := by rw [hL, List.length_append]
  have hL0 : 0 < L.length := by omega
  have hnL : L.length * 8 ≤ 140737488351232 := by omega
  have hxx : xs.length * 8 ≤ 140737488351232 := by omega
  have hyy : ys.length * 8 ≤ 140737488351232 := by omega
  have hnj : (xs.length + ys.length) * 8 ≤ 140737488355328 := by omega
  have HMI := Lib.hid (show (minI L = minI xs ∨ minI L = minI ys) ∧ minI L ≤ minI xs ∧ minI L ≤ minI ys by rw [hL]; exact min_joined hx0 hy0)
  have HMA := Lib.hid (show (maxI L = maxI xs ∨ maxI L = maxI ys) ∧ maxI xs ≤ maxI L ∧ maxI ys ≤ maxI L by rw [hL]; exact max_joined hx0 hy0)
  have HL := Lib.hid hL
  clear hL hLl hx hy
  go_enter Try.func6, Try.ntmps6
  go_wp2_with fail
  have hc1 := joined_calls A B c d xs ys w hA hB hnj
  rw [← HL.out] at hc1
  refine hc1.mono ?_
  clear hc1
  rintro e w1 ⟨A1, c1, rfl, ho1, hb1⟩
  go_wp2_with fail
  refine (minInts_some _ _ L w1 ho1.ints hnL hL0).mono ?_
  rintro e w2 ⟨rfl, hb2'⟩
  have hb2 := hb1.trans (hb2'.mono hb1.size)
  clear ho1 hb2'
  go_wp2_with fail
  have hc3 := joined_calls A B c d xs ys w2 (hA.below hb2) (hB.below hb2) hnj
  rw [← HL.out] at hc3
  refine hc3.mono ?_
  clear hc3
  rintro e w3 ⟨A3, c3, rfl, ho3, hb3'⟩
  have hb3 := hb2.trans (hb3'.mono hb2.size)
  go_wp2_with fail
  refine (maxInts_some _ _ L w3 ho3.ints hnL hL0).mono ?_
  rintro e w4 ⟨rfl, hb4'⟩
  have hb4 := hb3.trans (hb4'.mono hb3.size)
  clear ho3 hb4' hb3'
  go_wp2_with fail
  refine (minInts_some _ _ xs w4 (hA.below hb4) hxx hx0).mono ?_
  rintro e w5 ⟨rfl, hb5'⟩
  have hb5 := hb4.trans (hb5'.mono hb4.size)
  clear hb5'
  go_wp2_with fail
  refine (minInts_some _ _ ys w5 (hB.below hb5) hyy hy0).mono ?_
  rintro e w6 ⟨rfl, hb6'⟩
  have hb6 := hb5.trans (hb6'.mono hb5.size)
  clear hb6'
  go_wp2_with fail
  refine (maxInts_some _ _ xs w6 (hA.below hb6) hxx hx0).mono ?_
  rintro e w7 ⟨rfl, hb7'⟩
  have hb7 := hb6.trans (hb7'.mono hb6.size)
  clear hb7'
  go_wp2_with fail
  refine (maxInts_some _ _ ys w7 (hB.below hb7) hyy hy0).mono ?_
  rintro e w8 ⟨rfl, hb8'⟩
  have hb8 := hb7.trans (hb8'.mono hb7.size)
  clear hb8' hb1 hb2 hb3 hb4 hb5 hb6 hb7
  obtain ⟨hm0, hm1, hm2⟩ := HMI.out
  obtain ⟨hn0, hn1, hn2⟩ := HMA.out
  have hA1 : (minI L == minI xs) = true ∨ ((minI L == minI xs) = false ∧ (minI L == minI ys) = true) := by
    by_cases h : minI L = minI xs
    · left; simp [h]
    · right; rcases hm0 with h' | h'
      · exact absurd h' h
      · exact ⟨by simp [h], by simp [h']⟩
  have hA2 : (maxI L == maxI xs) = true ∨ ((maxI L == maxI xs) = false ∧ (maxI L == maxI ys) = true) := by
    by_cases h : maxI L = maxI xs
    · left; simp [h]
    · right; rcases hn0 with h' | h'
      · exact absurd h' h
      · exact ⟨by simp [h], by simp [h']⟩
  clear hm0 hn0 HMI HMA
  rcases hA1 with ha | ⟨ha, ha'⟩ <;> rcases hA2 with hb | ⟨hb, hb'⟩ <;>
  · go_wp2
    go_ret
    exact ⟨rfl, hb8⟩
end Go.Proofs.Ytadkichkfelbbaa
