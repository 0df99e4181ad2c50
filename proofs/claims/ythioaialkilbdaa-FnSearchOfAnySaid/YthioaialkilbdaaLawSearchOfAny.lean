/- The walk of FnSearchOfAny. -/
import Derived.Test.YthioaialkilbdaaBinInts
namespace Go.Proofs.Ythioaialkilbdaa
open Go.RowKit

set_option maxHeartbeats 400000 in
theorem lawSearchOfAny (A : Option Addr) (c : Nat) (zs : List Int) (v : Int) (w : World) (hA : Ints w A zs) (hn : zs.length * 8 ≤ 140737488351232) :
    Calls Try.prog 14 #[.slice A zs.length c, .int .i64 v] w fun e w' => e = .returned (.bool true) ∧ Below w.heap.size w w' := by
  go_enter Try.func14, Try.ntmps14
  go_wp2_with fail
  refine (binarySearchInts_calls _ _ zs v w hA hn).mono ?_
  rintro e w1 ⟨i, hf, rfl, hd1⟩
  have hi := hf.1
  clear hf
  by_cases hlt : i < zs.length
  · obtain ⟨b, off, rfl, hbl, hc⟩ := hA.below hd1.below (by omega)
    have hck := hc i hlt
    clear hc hA
    have hd : decide (i < zs.length) = true := by simp [hlt]
    cases hq : (gi zs i == v) with
    | true =>
      go_wp2
      go_ret
      exact ⟨ret_bool (by simp), hd1.below⟩
    | false =>
      go_wp2
      go_ret
      exact ⟨ret_bool (by simp), hd1.below⟩
  · have hd : decide (i < zs.length) = false := by simp; omega
    have hd' : decide ((i : Int) < (zs.length : Int)) = false := by simp; omega
    go_wp2
    go_ret
    exact ⟨ret_bool (by simp), hd1.below⟩
end Go.Proofs.Ythioaialkilbdaa
