/- Contract of the reference's IsSortedStrings. -/
import Derived.Test.YthioaialkilbdaaSpecEarlier
namespace Go.Proofs.Ythioaialkilbdaa
open Go.RowKit

set_option maxHeartbeats 800000 in
theorem specIsSortedStrings_calls (A : Option Addr) (c : Nat) (zs : List ByteArray) (w : World) (hA : Strs w A zs) (hn : zs.length * 16 ≤ 140737488351232) (hm : ∀ s ∈ zs, s.size ≤ maxLen) :
    Calls Try.prog 20 #[.slice A zs.length c] w fun e w' => e = .returned (.bool (ascS zs)) ∧ Draws w w' := by
  have HMX := Lib.hid hm
  clear hm
  go_enter Try.func20, Try.ntmps20
  go_wp2
  go_loopw [7] (fun j wr => ∃ k : Nat, k ≤ zs.length ∧ j = .int .i64 k ∧ (∀ a b, a < b → b < k → sl (gs zs b) (gs zs a) = false) ∧ Draws w wr) (fun j _ => zs.length - (intOf j).toNat)
  case atStart => exact ⟨0, Nat.zero_le _, rfl, fun _ _ _ h => absurd h (by omega), Draws.refl _⟩
  case round =>
    obtain ⟨k, hk, rfl, hs, hdo⟩ := hrel
    have HS := Lib.hid hs
    clear hs
    obtain ⟨wo, rfl⟩ : ∃ wo : World, wo = wr := ⟨_, rfl⟩
    by_cases hlt : k < zs.length
    · go_wp2
      go_loopw [4] (fun i wr => ∃ m : Nat, m ≤ k ∧ i = .int .i64 m ∧ (∀ a, a < m → sl (gs zs k) (gs zs a) = false) ∧ Draws w wr) (fun i _ => k - (intOf i).toNat)
      case atStart => exact ⟨0, Nat.zero_le _, rfl, fun _ h => absurd h (by omega), hdo⟩
      case round =>
        obtain ⟨m, hm, rfl, hi, hdr⟩ := hrel
        have HI := Lib.hid hi
        clear hi
        by_cases hmk : m < k
        · obtain ⟨b, off, rfl, hbl, hc⟩ := hA.below hdr.below (by omega)
          have hck := hc m (by omega)
          have hck' := hc k (by omega)
          have hml : m < zs.length := by omega
          clear hc hA
          by_cases he : sl (gs zs k) (gs zs m) = true
          · have HE := Lib.hid he
            have HX := Lib.hid (ascS_false (ss := zs) hmk hlt he)
            clear he
            go_wp2
            go_quiet ((go_at_call 50; exact quietD (specEarlier_t _ _ _ (HMX.out _ (gs_mem hlt)) (HMX.out _ (gs_mem hml)) HE.out)))
            go_wp2
            go_ret
            exact ⟨ret_bool HX.out.symm, hdr.drewN _⟩
          · have HX := Lib.hid (Bool.eq_false_iff.2 he)
            clear he
            go_wp2
            go_quiet ((go_at_call 50; exact quietD (specEarlier_f _ _ _ (HMX.out _ (gs_mem hlt)) (HMX.out _ (gs_mem hml)) HX.out)))
            go_wp2
            go_roundw
            case rel => exact ⟨m + 1, by omega, by go_num, fun a ha => by
              rcases Nat.lt_or_ge a m with h | h
              · exact HI.out a h
              · obtain rfl : a = m := by omega
                exact HX.out, hdr.drewN _⟩
            case measure => simp [intOf]; omega
        · go_wp2
          go_roundw
          case rel => exact ⟨k + 1, by omega, by go_num, fun a b hab hb => by
            rcases Nat.lt_or_ge b k with h | h
            · exact HS.out a b hab h
            · obtain rfl : b = k := by omega
              exact HI.out a (by omega), hdr⟩
          case measure => simp [intOf]; omega
    · go_wp2
      go_ret
      exact ⟨ret_bool ((ascS_iff zs).2 fun a b hab hb => HS.out a b hab (by omega)).symm, hdo⟩
end Go.Proofs.Ythioaialkilbdaa
