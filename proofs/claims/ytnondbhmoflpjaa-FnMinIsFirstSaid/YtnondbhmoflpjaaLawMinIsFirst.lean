/- The walk of FnMinIsFirst. -/
import Derived.Test.YtnondbhmoflpjaaSortInts
import Derived.Test.YtnondbhmoflpjaaMinFirstPlain
import Derived.Test.YtnondbhmoflpjaaMinInts
import Derived.Test.YtnondbhmoflpjaaMaxInts
namespace Go.Proofs.Ytnondbhmoflpjaa
open Go.RowKit

set_option maxHeartbeats 1600000 in
theorem lawMinIsFirst (A : Option Addr) (c : Nat) (zs : List Int) (w : World) (hA : Ints w A zs) (hn : zs.length * 8 ≤ 140737488351232) :
    Calls Try.prog 13 #[.slice A zs.length c] w fun e w' => e = .returned (.bool true) ∧ Below w.heap.size w w' := by
  by_cases h0 : 0 < zs.length
  · have hz : ((zs.length : Int) == 0) = false := by simp; intro h; simp [h] at h0
    go_enter Try.func13, Try.ntmps13
    go_wp2_with fail
    refine (minInts_some _ _ zs w hA hn h0).mono ?_
    rintro e w1 ⟨rfl, hb1⟩
    go_wp2_with fail
    refine (maxInts_some _ _ zs w1 (hA.below hb1) hn h0).mono ?_
    rintro e w2 ⟨rfl, hb2'⟩
    have hb2 := hb1.trans (hb2'.mono hb1.size)
    go_wp2_with fail
    refine (sortInts_calls _ _ zs w2 (hA.below hb2) hn).mono ?_
    rintro e w3 ⟨A3, c3, rfl, ho3, hb3'⟩
    have hb3 := hb2.trans (hb3'.mono hb2.size)
    have hl := length_sortI zs
    have hq1 : (((sortI zs).length : Int) == (zs.length : Int)) = true := by rw [hl]; simp
    have hl0 : 0 < (sortI zs).length := by omega
    have hn3 : (sortI zs).length * 8 ≤ 140737488351232 := by omega
    obtain ⟨b, off, rfl, hbl, hc⟩ := ho3.ints hl0
    have hck0 := hc 0 hl0
    simp only [Nat.add_zero] at hck0
    have hckl := hc ((sortI zs).length - 1) (by omega)
    have hfm : (gi (sortI zs) 0 == minI zs) = true := by rw [first_min h0]; simp
    have hlm : (gi (sortI zs) ((sortI zs).length - 1) == maxI zs) = true := by rw [last_max h0]; simp
    have x3 : (((sortI zs).length : Int) - 1).toNat = (sortI zs).length - 1 := by omega
    have x4 : (0 : Int) ≤ ((sortI zs).length : Int) - 1 := by omega
    have x6 : (0 : Int) < ((sortI zs).length : Int) := by omega
    clear hc hl ho3
    go_wp2
    go_ret
    exact ⟨rfl, hb3⟩
  · obtain rfl : zs = [] := List.eq_nil_of_length_eq_zero (by omega)
    go_enter Try.func13, Try.ntmps13
    go_wp2_with fail
    refine (minInts_none _ _ w).mono ?_
    rintro e w1 ⟨rfl, hb1⟩
    go_wp2_with fail
    refine (maxInts_none _ _ w1).mono ?_
    rintro e w2 ⟨rfl, hb2'⟩
    have hb2 := hb1.trans (hb2'.mono hb1.size)
    go_wp2
    go_ret
    exact ⟨rfl, hb2⟩
end Go.Proofs.Ytnondbhmoflpjaa
