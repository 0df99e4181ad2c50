/- Contract of the laws' ascending. -/
import Derived.Test.YtnondbhmoflpjaaInfo
namespace Go.Proofs.Ytnondbhmoflpjaa
open Go.RowKit

set_option maxHeartbeats 400000 in
theorem ascending_calls (A : Option Addr) (c : Nat) (zs : List Int) (w : World) (hA : Ints w A zs) (hn : zs.length * 8 ≤ 140737488351232) :
    Calls Try.prog 22 #[.slice A zs.length c] w fun e w' => e = .returned (.bool (ascB zs)) ∧ Draws w w' := by
  go_enter Try.func22, Try.ntmps22
  go_wp2
  go_loopw [3] (fun i wr => ∃ k : Nat, i = .int .i64 ((k : Int) + 1) ∧ k ≤ zs.length ∧ (∀ j : Nat, j < k → j + 1 < zs.length → gi zs j ≤ gi zs (j + 1)) ∧ Draws w wr) (fun i _ => zs.length - (intOf i).toNat)
  case atStart => exact ⟨0, by simp, Nat.zero_le _, fun j hj hj' => absurd hj (by omega), Draws.refl _⟩
  case round =>
    obtain ⟨m, rfl, hk, hs, hdr⟩ := hrel
    have HS := Lib.hid hs
    clear hs
    by_cases hlt : m + 1 < zs.length
    · obtain ⟨b, off, rfl, hbl, hc⟩ := hA.below hdr.below (by omega)
      have hck := hc m (by omega)
      have hck' := hc (m + 1) (by omega)
      clear hc hA
      have hi1 : (0 : Int) ≤ (m : Int) + 1 := by omega
      have hi2 : (m : Int) < (zs.length : Int) := by omega
      have hi3 : (m : Int) + 1 < (zs.length : Int) := by omega
      by_cases he : gi zs (m + 1) < gi zs m
      · have HX := Lib.hid (ascB_false (zs := zs) (i := m) (j := m + 1) (by omega) (by omega) he)
        go_wp2
        have hx1 : ((m : Int) + 1).toNat = m + 1 := by omega
        have hw : IntKind.i64.wrap (m : Int) = m := IntWalk.i64_in _ (by omega)
        go_quiet (fail)
        clear hx1 hw
        go_wp2
        go_ret
        exact ⟨ret_bool HX.out.symm, hdr.drewN _⟩
      · have HX := Lib.hid (Int.not_lt.1 he)
        go_wp2
        have hx1 : ((m : Int) + 1).toNat = m + 1 := by omega
        have hw : IntKind.i64.wrap (m : Int) = m := IntWalk.i64_in _ (by omega)
        go_quiet (fail)
        clear hx1 hw
        go_wp2
        go_roundw
        case rel => exact ⟨m + 1, by go_num, by omega, fun j hj hj' => by
          rcases Nat.lt_or_ge j m with h | h
          · exact HS.out j (by omega) hj'
          · obtain rfl : j = m := by omega
            exact HX.out, hdr.drewN _⟩
        case measure => simp [intOf]; omega
    · go_wp2
      go_ret
      exact ⟨ret_bool (ascB_of_adj (fun i hi => HS.out i (by omega) hi)).symm, hdr⟩
end Go.Proofs.Ytnondbhmoflpjaa
