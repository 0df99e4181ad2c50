/- The walk of FnBinarySearchStrings. -/
import Derived.Test.YthioaialkilbdaaBinStrs
import Derived.Test.YthioaialkilbdaaSpecBinStrs
import Derived.Test.YthioaialkilbdaaAscTexts
namespace Go.Proofs.Ythioaialkilbdaa
open Go.RowKit

set_option maxHeartbeats 400000 in
theorem lawBinarySearchStrings (A : Option Addr) (c : Nat) (zs : List ByteArray) (v : ByteArray) (w : World) (hA : Strs w A zs) (hn : zs.length * 16 ≤ 140737488351232) (hmx : ∀ s ∈ zs, s.size ≤ maxLen) (hv : v.size ≤ maxLen) :
    Calls Try.prog 13 #[.slice A zs.length c, .string v] w fun e w' => e = .returned (.bool true) ∧ Below w.heap.size w w' := by
  have HMX := Lib.hid hmx
  have HV := Lib.hid hv
  clear hmx hv
  go_enter Try.func13, Try.ntmps13
  go_wp2_with fail
  refine (ascendingTexts_calls _ _ zs w hA hn HMX.out).mono ?_
  rintro e w1 ⟨rfl, hd1⟩
  cases ha : ascS zs with
  | false =>
    clear ha
    go_wp2
    go_ret
    exact ⟨rfl, hd1.below⟩
  | true =>
    have HA := Lib.hid ha
    clear ha
    go_wp2_with fail
    refine (binarySearchStrings_asc _ _ zs v w1 (hA.below hd1.below) hn HA.out).mono ?_
    rintro e w2 ⟨rfl, hd2⟩
    go_wp2_with fail
    refine (specBinarySearchStrings_calls _ _ zs v w2 (hA.below (hd1.trans hd2).below) hn HMX.out HV.out).mono ?_
    rintro e w3 ⟨rfl, hd3⟩
    go_wp2
    go_ret
    exact ⟨ret_bool (by simp), ((hd1.trans hd2).trans hd3).below⟩
end Go.Proofs.Ythioaialkilbdaa
