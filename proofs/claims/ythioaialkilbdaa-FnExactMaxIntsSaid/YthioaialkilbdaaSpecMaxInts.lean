/- Contract of the reference's MaxInts. -/
import Derived.Test.YthioaialkilbdaaInfo
import Derived.Test.YthioaialkilbdaaMaxPlain
namespace Go.Proofs.Ythioaialkilbdaa
open Go.RowKit

set_option maxHeartbeats 800000 in
theorem specMaxInts_some (A : Option Addr) (c : Nat) (zs : List Int) (w : World) (hA : Ints w A zs) (hn : zs.length * 8 ≤ 140737488351232) (h0 : 0 < zs.length) :
    Calls Try.prog 24 #[.slice A zs.length c] w fun e w' => e = .returned (.tuple #[.int .i64 (maxI zs), .bool true]) ∧ Draws w w' := by
  obtain ⟨b, off, rfl, hbl, hc⟩ := hA h0
  have HC := Lib.hid hc
  clear hc hA
  go_enter Try.func24, Try.ntmps24
  go_wp2
  go_loopw [11] (fun j wr => ∃ k : Nat, k ≤ zs.length ∧ j = .int .i64 k ∧ (∀ i, i < k → AllLe zs (gi zs i) zs.length false) ∧ Draws w wr) (fun j _ => zs.length - (intOf j).toNat)
  case atStart => exact ⟨0, Nat.zero_le _, rfl, fun i hi => absurd hi (by omega), Draws.refl _⟩
  case round =>
    obtain ⟨k, hk, rfl, hs, hdo⟩ := hrel
    have HS := Lib.hid hs
    clear hs
    obtain ⟨wo, rfl⟩ : ∃ wo : World, wo = wr := ⟨_, rfl⟩
    by_cases hlt : k < zs.length
    · have hck := hdo.cell (HC.out k hlt)
      go_wp2
      clear hck
      go_loopw [6, 17] (fun g i wr => ∃ (m : Nat) (x : Bool), m ≤ zs.length ∧ g = .bool x ∧ i = .int .i64 m ∧ AllLe zs (gi zs k) m x ∧ Draws w wr) (fun _ i _ => zs.length - (intOf i).toNat)
      case atStart => exact ⟨0, true, Nat.zero_le _, rfl, rfl, AllLe.start _ _, hdo⟩
      case round =>
        obtain ⟨m, x, hm, rfl, rfl, hx, hd⟩ := hrel
        by_cases hmk : m < zs.length
        · have hcm := hd.cell (HC.out m hmk)
          have HX := Lib.hid hx.step
          clear hx
          cases x with
          | false =>
            go_wp2
            go_roundw
            case rel => exact ⟨m + 1, false, by omega, rfl, by go_num, by simpa using HX.out, hd⟩
            case measure => simp [intOf]; omega
          | true =>
            by_cases hle : gi zs m ≤ gi zs k
            · have HX' : Hid (AllLe zs (gi zs k) (m + 1) true) := by have := HX.out; simp only [hle, Bool.true_and, decide_true] at this; exact this
              go_wp2
              go_roundw
              case rel => exact ⟨m + 1, true, by omega, rfl, by go_num, HX'.out, hd⟩
              case measure => simp [intOf]; omega
            · have HX' : Hid (AllLe zs (gi zs k) (m + 1) false) := by have := HX.out; simp only [hle, Bool.true_and, decide_false] at this; exact this
              go_wp2
              go_roundw
              case rel => exact ⟨m + 1, false, by omega, rfl, by go_num, HX'.out, hd⟩
              case measure => simp [intOf]; omega
        · obtain rfl : m = zs.length := by omega
          cases x with
          | false =>
            have HX := Lib.hid hx
            clear hx
            go_wp2
            go_roundw
            case rel => exact ⟨k + 1, by omega, by go_num, fun i hi => by
              rcases Nat.lt_or_ge i k with h | h
              · exact HS.out i h
              · obtain rfl : i = k := by omega
                exact HX.out, hd⟩
            case measure => simp [intOf]; omega
          | true =>
            have HX := Lib.hid (hx.max hlt)
            clear hx
            go_wp2
            go_ret2
            exact ⟨ret_ib HX.out rfl, hd⟩
    · exact (some_max h0 (fun j hj => HS.out j (by omega))).elim

theorem specMaxInts_none (A : Option Addr) (c : Nat) (w : World) :
    Calls Try.prog 24 #[.slice A 0 c] w fun e w' => e = .returned (.tuple #[.int .i64 0, .bool false]) ∧ Draws w w' := by
  go_enter Try.func24, Try.ntmps24
  go_wp2
  go_loopw [11] (fun j wr => j = .int .i64 0 ∧ Draws w wr) (fun _ _ => 0)
  case atStart => exact ⟨rfl, Draws.refl _⟩
  case round =>
    obtain ⟨rfl, hd⟩ := hrel
    go_wp2
    go_ret2
    exact ⟨rfl, hd⟩
end Go.Proofs.Ythioaialkilbdaa
