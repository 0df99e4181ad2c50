/- The walk of FnMinTextIsFirst. -/
import Derived.Test.YtadkichkfelbbaaSortStrings
import Derived.Test.YtadkichkfelbbaaMinStrings
import Derived.Test.YtadkichkfelbbaaMaxStrings
namespace Go.Proofs.Ytadkichkfelbbaa
open Go.RowKit

theorem first_minS {zs : List ByteArray} (h0 : 0 < zs.length) : gs (sortS zs) 0 = minS zs := by
  have hl := length_sortS zs
  refine IsMinS.unique (ss := zs) ⟨(perm_sortS zs).mem_iff.1 (gs_mem (by omega)), fun z hz => ?_⟩ (isMinS_minS (by intro e; subst e; simp at h0))
  obtain ⟨i, hi, rfl⟩ := mem_iff_gs.1 ((perm_sortS zs).mem_iff.2 hz)
  rcases Nat.eq_zero_or_pos i with h | h
  · subst h; exact sle_refl _
  · exact (ascS_iff _).1 (asc_sortS zs) 0 i h hi
theorem last_maxS {zs : List ByteArray} (h0 : 0 < zs.length) : gs (sortS zs) ((sortS zs).length - 1) = maxS zs := by
  have hl := length_sortS zs
  refine IsMaxS.unique (ss := zs) ⟨(perm_sortS zs).mem_iff.1 (gs_mem (by omega)), fun z hz => ?_⟩ (isMaxS_maxS (by intro e; subst e; simp at h0))
  obtain ⟨i, hi, rfl⟩ := mem_iff_gs.1 ((perm_sortS zs).mem_iff.2 hz)
  rcases Nat.lt_or_ge i ((sortS zs).length - 1) with h | h
  · exact (ascS_iff _).1 (asc_sortS zs) i _ h (by omega)
  · obtain rfl : i = (sortS zs).length - 1 := by omega
    exact sle_refl _

set_option maxHeartbeats 1600000 in
theorem lawMinTextIsFirst (A : Option Addr) (c : Nat) (zs : List ByteArray) (w : World) (hA : Strs w A zs) (hn : zs.length * 16 ≤ 140737488351232) :
    Calls Try.prog 5 #[.slice A zs.length c] w fun e w' => e = .returned (.bool true) ∧ Below w.heap.size w w' := by
  by_cases h0 : 0 < zs.length
  · have hz : ((zs.length : Int) == 0) = false := by simp; intro h; simp [h] at h0
    go_enter Try.func5, Try.ntmps5
    go_wp2_with fail
    refine (minStrings_some _ _ zs w hA hn h0).mono ?_
    rintro e w1 ⟨rfl, hb1⟩
    go_wp2_with fail
    refine (maxStrings_some _ _ zs w1 (hA.below hb1) hn h0).mono ?_
    rintro e w2 ⟨rfl, hb2'⟩
    have hb2 := hb1.trans (hb2'.mono hb1.size)
    go_wp2_with fail
    refine (sortStrings_calls _ _ zs w2 (hA.below hb2) hn).mono ?_
    rintro e w3 ⟨A3, c3, rfl, ho3, hb3'⟩
    have hb3 := hb2.trans (hb3'.mono hb2.size)
    have hl := length_sortS zs
    have hq1 : (((sortS zs).length : Int) == (zs.length : Int)) = true := by rw [hl]; simp
    have hl0 : 0 < (sortS zs).length := by omega
    have hn3 : (sortS zs).length * 16 ≤ 140737488351232 := by omega
    obtain ⟨b, off, rfl, hbl, hc⟩ := ho3.strs hl0
    have hck0 := hc 0 hl0
    simp only [Nat.add_zero] at hck0
    have hckl := hc ((sortS zs).length - 1) (by omega)
    have hfm : ((gs (sortS zs) 0).toList == (minS zs).toList) = true := by rw [first_minS h0]; simp
    have hlm : ((gs (sortS zs) ((sortS zs).length - 1)).toList == (maxS zs).toList) = true := by rw [last_maxS h0]; simp
    have x3 : (((sortS zs).length : Int) - 1).toNat = (sortS zs).length - 1 := by omega
    have x4 : (0 : Int) ≤ ((sortS zs).length : Int) - 1 := by omega
    have x6 : (0 : Int) < ((sortS zs).length : Int) := by omega
    clear hc hl ho3
    go_wp2
    go_ret
    exact ⟨rfl, hb3⟩
  · obtain rfl : zs = [] := List.eq_nil_of_length_eq_zero (by omega)
    go_enter Try.func5, Try.ntmps5
    go_wp2_with fail
    refine (minStrings_none _ _ w).mono ?_
    rintro e w1 ⟨rfl, hb1⟩
    go_wp2_with fail
    refine (maxStrings_none _ _ w1).mono ?_
    rintro e w2 ⟨rfl, hb2'⟩
    have hb2 := hb1.trans (hb2'.mono hb1.size)
    go_wp2
    go_ret
    exact ⟨rfl, hb2⟩
end Go.Proofs.Ytadkichkfelbbaa
