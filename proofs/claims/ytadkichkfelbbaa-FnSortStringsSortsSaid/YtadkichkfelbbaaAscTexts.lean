/- Contract of the laws' ascendingTexts. -/
import Derived.Test.YtadkichkfelbbaaLawEarlier
namespace Go.Proofs.Ytadkichkfelbbaa
open Go.RowKit

set_option maxHeartbeats 400000 in
theorem ascendingTexts_calls (A : Option Addr) (c : Nat) (zs : List ByteArray) (w : World) (hA : Strs w A zs) (hn : zs.length * 16 ≤ 140737488351232) (hmx : ∀ s ∈ zs, s.size ≤ maxLen) :
    Calls Try.prog 15 #[.slice A zs.length c] w fun e w' => e = .returned (.bool (ascS zs)) ∧ Draws w w' := by
  have HMX := Lib.hid hmx
  clear hmx
  go_enter Try.func15, Try.ntmps15
  go_wp2
  go_loopw [3] (fun i wr => ∃ k : Nat, i = .int .i64 ((k : Int) + 1) ∧ k ≤ zs.length ∧ (∀ j : Nat, j < k → j + 1 < zs.length → sl (gs zs (j + 1)) (gs zs j) = false) ∧ Draws w wr) (fun i _ => zs.length - (intOf i).toNat)
  case atStart => exact ⟨0, by simp, Nat.zero_le _, fun j hj hj' => absurd hj (by omega), Draws.refl _⟩
  case round =>
    obtain ⟨m, rfl, hk, hs, hdr⟩ := hrel
    have HS := Lib.hid hs
    clear hs
    by_cases hlt : m + 1 < zs.length
    · obtain ⟨b, off, rfl, hbl, hc⟩ := hA.below hdr.below (by omega)
      have hck := hc m (by omega)
      have hck' := hc (m + 1) (by omega)
      clear hc hA
      have hml : m < zs.length := by omega
      have hi1 : (0 : Int) ≤ (m : Int) + 1 := by omega
      have hi2 : (m : Int) < (zs.length : Int) := by omega
      have hi3 : (m : Int) + 1 < (zs.length : Int) := by omega
      by_cases he : sl (gs zs (m + 1)) (gs zs m) = true
      · have HE := Lib.hid he
        have HX := Lib.hid (ascS_false (ss := zs) (i := m) (j := m + 1) (by omega) (by omega) he)
        go_wp2
        have hx1 : ((m : Int) + 1).toNat = m + 1 := by omega
        have hw : IntKind.i64.wrap (m : Int) = m := IntWalk.i64_in _ (by omega)
        clear he
        go_quiet ((go_at_call 31; exact quietD (lawEarlier_t _ _ _ (HMX.out _ (gs_mem hlt)) (HMX.out _ (gs_mem hml)) HE.out)))
        clear hx1 hw
        go_wp2
        go_ret
        exact ⟨ret_bool HX.out.symm, hdr.drewN _⟩
      · have HX := Lib.hid (Bool.eq_false_iff.2 he)
        go_wp2
        have hx1 : ((m : Int) + 1).toNat = m + 1 := by omega
        have hw : IntKind.i64.wrap (m : Int) = m := IntWalk.i64_in _ (by omega)
        clear he
        go_quiet ((go_at_call 31; exact quietD (lawEarlier_f _ _ _ (HMX.out _ (gs_mem hlt)) (HMX.out _ (gs_mem hml)) HX.out)))
        clear hx1 hw
        go_wp2
        go_roundw
        case rel => exact ⟨m + 1, by go_num, by omega, fun j hj hj' => by
          rcases Nat.lt_or_ge j m with h | h
          · exact HS.out j (by omega) hj'
          · obtain rfl : j = m := by omega
            exact HX.out, hdr.drewN _⟩
        case measure => simp [intOf]; omega
    · go_wp2
      go_ret
      exact ⟨ret_bool (ascS_of_adj (fun i hi => HS.out i (by omega) hi)).symm, hdr⟩
end Go.Proofs.Ytadkichkfelbbaa
