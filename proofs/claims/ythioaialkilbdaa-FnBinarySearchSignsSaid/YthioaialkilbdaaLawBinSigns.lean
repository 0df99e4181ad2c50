/- The walk of FnBinarySearchSigns. -/
import Derived.Test.YthioaialkilbdaaBinSigns
namespace Go.Proofs.Ythioaialkilbdaa
open Go.RowKit

theorem sgn_le_of {a b : Int} (h : a < 0 ∨ (a = 0 ∧ 0 ≤ b) ∨ (0 < a ∧ 0 < b)) : sgn a ≤ sgn b := by
  unfold sgn; repeat' split
  all_goals omega

set_option maxHeartbeats 1600000 in
theorem lawBinarySearchSigns (A : Option Addr) (c : Nat) (zs : List Int) (w : World) (hA : Ints w A zs) (hn : zs.length * 8 ≤ 140737488351232) :
    Calls Try.prog 9 #[.slice A zs.length c] w fun e w' => e = .returned (.bool true) ∧ Below w.heap.size w w' := by
  go_enter Try.func9, Try.ntmps9
  go_wp2
  go_loopw [3] (fun i wr => ∃ k : Nat, i = .int .i64 ((k : Int) + 1) ∧ k ≤ zs.length ∧ (∀ j : Nat, j < k → j + 1 < zs.length → sgn (gi zs j) ≤ sgn (gi zs (j + 1))) ∧ Draws w wr) (fun i _ => zs.length - (intOf i).toNat)
  case atStart => exact ⟨0, by simp, Nat.zero_le _, fun j hj hj' => absurd hj (by omega), Draws.refl _⟩
  case round =>
    obtain ⟨m, rfl, hk, hs, hdr⟩ := hrel
    have HS := Lib.hid hs
    clear hs
    by_cases hlt : m + 1 < zs.length
    · obtain ⟨b, off, rfl, hbl, hc⟩ := hA.below hdr.below (by omega)
      have hck := hc m (by omega)
      have hck' := hc (m + 1) (by omega)
      clear hc hA
      have hi1 : (0 : Int) ≤ (m : Int) + 1 := by omega
      have hi2 : (m : Int) < (zs.length : Int) := by omega
      have hi3 : (m : Int) + 1 < (zs.length : Int) := by omega
      have hx1 : ((m : Int) + 1).toNat = m + 1 := by omega
      by_cases he : gi zs m < 0 ∨ (gi zs m = 0 ∧ 0 ≤ gi zs (m + 1)) ∨ (0 < gi zs m ∧ 0 < gi zs (m + 1))
      · have HX := Lib.hid (sgn_le_of he)
        rcases he with h1 | ⟨h1, h2⟩ | ⟨h1, h2⟩
        · go_wp2
          go_roundw
          case rel => exact ⟨m + 1, by go_num, by omega, fun j hj hj' => by
            rcases Nat.lt_or_ge j m with h | h
            · exact HS.out j (by omega) hj'
            · obtain rfl : j = m := by omega
              exact HX.out, hdr⟩
          case measure => simp [intOf]; omega
        · have h1a : 0 ≤ gi zs m := by omega
          have h1b : gi zs m ≤ 0 := by omega
          clear h1
          go_wp2
          go_roundw
          case rel => exact ⟨m + 1, by go_num, by omega, fun j hj hj' => by
            rcases Nat.lt_or_ge j m with h | h
            · exact HS.out j (by omega) hj'
            · obtain rfl : j = m := by omega
              exact HX.out, hdr⟩
          case measure => simp [intOf]; omega
        · go_wp2
          go_roundw
          case rel => exact ⟨m + 1, by go_num, by omega, fun j hj hj' => by
            rcases Nat.lt_or_ge j m with h | h
            · exact HS.out j (by omega) hj'
            · obtain rfl : j = m := by omega
              exact HX.out, hdr⟩
          case measure => simp [intOf]; omega
      · by_cases h1 : 0 < gi zs m
        · by_cases h2 : gi zs (m + 1) < 0
          · clear he
            go_wp2
            go_ret
            exact ⟨rfl, hdr.below⟩
          · have h3 : gi zs (m + 1) ≤ 0 := by omega
            clear he
            go_wp2
            go_ret
            exact ⟨rfl, hdr.below⟩
        · have h2 : gi zs (m + 1) < 0 := by omega
          have h3 : 0 ≤ gi zs m := by omega
          clear he
          go_wp2
          go_ret
          exact ⟨rfl, hdr.below⟩
    · have HG : Hid (signed zs) := fun i hi => HS.out i (by omega) hi
      clear HS
      go_wp2_with fail
      refine (binarySearchSigns_calls _ _ zs _ (hA.below hdr.below) hn HG.out).mono ?_
      rintro e w2 ⟨rfl, hd2⟩
      go_wp2_with fail
      refine (specBinarySearchSigns_calls _ _ zs _ (hA.below (hdr.trans hd2).below) hn).mono ?_
      rintro e w3 ⟨rfl, hd3⟩
      go_wp2
      go_ret
      exact ⟨ret_bool (by simp), ((hdr.trans hd2).trans hd3).below⟩
end Go.Proofs.Ythioaialkilbdaa
