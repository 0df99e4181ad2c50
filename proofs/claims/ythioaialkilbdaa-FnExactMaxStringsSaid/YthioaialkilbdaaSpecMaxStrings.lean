/- Contract of the reference's MaxStrings. -/
import Derived.Test.YthioaialkilbdaaSpecEarlier
import Derived.Test.YthioaialkilbdaaMaxStrPlain
namespace Go.Proofs.Ythioaialkilbdaa
open Go.RowKit

set_option maxHeartbeats 800000 in
theorem specMaxStrings_some (A : Option Addr) (c : Nat) (zs : List ByteArray) (w : World) (hA : Strs w A zs) (hn : zs.length * 16 ≤ 140737488351232) (hmx : ∀ s ∈ zs, s.size ≤ maxLen) (h0 : 0 < zs.length) :
    Calls Try.prog 26 #[.slice A zs.length c] w fun e w' => e = .returned (.tuple #[.string (maxS zs), .bool true]) ∧ Draws w w' := by
  obtain ⟨b, off, rfl, hbl, hc⟩ := hA h0
  have HC := Lib.hid hc
  have HMX := Lib.hid hmx
  clear hc hA hmx
  go_enter Try.func26, Try.ntmps26
  go_wp2
  go_loopw [11] (fun j wr => ∃ k : Nat, k ≤ zs.length ∧ j = .int .i64 k ∧ (∀ i, i < k → AllLeS zs (gs zs i) zs.length false) ∧ Draws w wr) (fun j _ => zs.length - (intOf j).toNat)
  case atStart => exact ⟨0, Nat.zero_le _, rfl, fun i hi => absurd hi (by omega), Draws.refl _⟩
  case round =>
    obtain ⟨k, hk, rfl, hs, hdo⟩ := hrel
    have HS := Lib.hid hs
    clear hs
    obtain ⟨wo, rfl⟩ : ∃ wo : World, wo = wr := ⟨_, rfl⟩
    by_cases hlt : k < zs.length
    · have hck := hdo.cell (HC.out k hlt)
      go_wp2
      clear hck
      go_loopw [6, 17] (fun g i wr => ∃ (m : Nat) (x : Bool), m ≤ zs.length ∧ g = .bool x ∧ i = .int .i64 m ∧ AllLeS zs (gs zs k) m x ∧ Draws w wr) (fun _ i _ => zs.length - (intOf i).toNat)
      case atStart => exact ⟨0, true, Nat.zero_le _, rfl, rfl, AllLeS.start _ _, hdo⟩
      case round =>
        obtain ⟨m, x, hm, rfl, rfl, hx, hd⟩ := hrel
        by_cases hmk : m < zs.length
        · have hcm := hd.cell (HC.out m hmk)
          have HX := Lib.hid hx.step
          clear hx
          cases x with
          | false =>
            go_wp2
            go_roundw
            case rel => exact ⟨m + 1, false, by omega, rfl, by go_num, by simpa using HX.out, hd⟩
            case measure => simp [intOf]; omega
          | true =>
            by_cases hle : sl (gs zs k) (gs zs m) = false
            · have HL := Lib.hid hle
              have HX' : Hid (AllLeS zs (gs zs k) (m + 1) true) := by have := HX.out; simp only [hle, Bool.not_false, Bool.true_and] at this; exact this
              clear hle
              go_wp2_with (go_at_call 50; refine (specEarlier_f _ _ _ (HMX.out _ (gs_mem hlt)) (HMX.out _ (gs_mem hmk)) HL.out).mono ?_; rintro e w' ⟨rfl, hd'⟩)
              go_roundw
              case rel => exact ⟨m + 1, true, by omega, rfl, by go_num, HX'.out, hd.trans hd'⟩
              case measure => simp [intOf]; omega
            · have HL := Lib.hid (eq_true_of_not_false hle)
              have HX' : Hid (AllLeS zs (gs zs k) (m + 1) false) := by have := HX.out; rw [Bool.not_eq_false] at hle; simp only [hle, Bool.not_true, Bool.true_and] at this; exact this
              clear hle
              go_wp2_with (go_at_call 50; refine (specEarlier_t _ _ _ (HMX.out _ (gs_mem hlt)) (HMX.out _ (gs_mem hmk)) HL.out).mono ?_; rintro e w' ⟨rfl, hd'⟩)
              go_roundw
              case rel => exact ⟨m + 1, false, by omega, rfl, by go_num, HX'.out, hd.trans hd'⟩
              case measure => simp [intOf]; omega
        · obtain rfl : m = zs.length := by omega
          cases x with
          | false =>
            have HX := Lib.hid hx
            clear hx
            go_wp2
            go_roundw
            case rel => exact ⟨k + 1, by omega, by go_num, fun i hi => by
              rcases Nat.lt_or_ge i k with h | h
              · exact HS.out i h
              · obtain rfl : i = k := by omega
                exact HX.out, hd⟩
            case measure => simp [intOf]; omega
          | true =>
            have HX := Lib.hid (hx.max hlt)
            clear hx
            go_wp2
            go_ret2
            exact ⟨ret_sb HX.out rfl, hd⟩
    · exact (some_maxS h0 (fun j hj => HS.out j (by omega))).elim

theorem specMaxStrings_none (A : Option Addr) (c : Nat) (w : World) :
    Calls Try.prog 26 #[.slice A 0 c] w fun e w' => e = .returned (.tuple #[.string ByteArray.empty, .bool false]) ∧ Draws w w' := by
  go_enter Try.func26, Try.ntmps26
  go_wp2
  go_loopw [11] (fun j wr => j = .int .i64 0 ∧ Draws w wr) (fun _ _ => 0)
  case atStart => exact ⟨rfl, Draws.refl _⟩
  case round =>
    obtain ⟨rfl, hd⟩ := hrel
    go_wp2
    go_ret2
    exact ⟨rfl, hd⟩
end Go.Proofs.Ythioaialkilbdaa
