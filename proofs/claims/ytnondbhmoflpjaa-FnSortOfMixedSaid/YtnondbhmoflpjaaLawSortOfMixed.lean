/- The walk of FnSortOfMixed. -/
import Derived.Test.YtnondbhmoflpjaaReverseParts
import Derived.Test.YtnondbhmoflpjaaToParts
import Derived.Test.YtnondbhmoflpjaaSameInts
namespace Go.Proofs.Ytnondbhmoflpjaa
open Go.RowKit

set_option maxHeartbeats 800000 in
theorem lawSortOfMixed (A B : Option Addr) (c d : Nat) (zs : List Int) (ps : List (Int × Int)) (w : World) (hA : Ints w A zs) (hB : Items w B ps) (hn : zs.length * 8 ≤ 140737488351232) (hp : ps.length * 16 ≤ 140737488351232) :
    Calls Try.prog 12 #[.slice A zs.length c, .slice B ps.length d] w fun e w' => e = .returned (.bool true) ∧ Below w.heap.size w w' := by
  have hl := length_sortI zs
  have hq : (((sortI zs).length : Int) == (zs.length : Int)) = true := by rw [hl]; simp
  have hn1 : (sortI zs).length * 8 ≤ 140737488351232 := by omega
  have HL := Lib.hid hl
  clear hl
  go_enter Try.func12, Try.ntmps12
  go_wp2_with fail
  refine (sortInts_calls _ _ zs w hA hn).mono ?_
  rintro e w1 ⟨A1, c1, rfl, ho1, hb1⟩
  go_wp2_with fail
  refine (toParts_calls _ _ ps w1 (hB.below hb1) hp).mono ?_
  rintro e w2 ⟨A2, c2, rfl, ho2, hb2'⟩
  have hb2 := hb1.trans (hb2'.mono hb1.size)
  go_wp2_with fail
  refine (reverseParts_calls _ _ _ _ zs ps w2 (hA.below hb2) ho2.items hn hp).mono ?_
  rintro e w3 ⟨ys, hperm, A3, c3, rfl, ho3, hb3'⟩
  have hb3 := hb2.trans (hb3'.mono hb2.size)
  have HS := Lib.hid (sortI_of_perm hperm)
  have hyl := hperm.length_eq
  have hny : ys.length * 8 ≤ 140737488351232 := by omega
  have HY := Lib.hid hyl
  clear hyl hperm
  go_wp2_with fail
  refine (sortInts_calls _ _ ys w3 ho3.ints hny).mono ?_
  rintro e w4 ⟨A4, c4, he4, ho4, hb4'⟩
  rw [HS.out] at he4 ho4
  subst he4
  have hb4 := hb3.trans (hb4'.mono hb3.size)
  have hI1 : Ints w4 A1 (sortI zs) := ((ho1.ints.below hb2').below hb3').below hb4'
  have hI4 := ho4.ints
  go_wp2_with fail
  refine (sameInts_calls _ _ _ _ (sortI zs) (sortI zs) w4 hI4 hI1 hn1).mono ?_
  rintro e w5 ⟨he5, hd5⟩
  rw [decide_eq_true rfl] at he5
  subst he5
  go_wp2
  go_ret
  exact ⟨rfl, hb4.trans hd5.below⟩
end Go.Proofs.Ytnondbhmoflpjaa
