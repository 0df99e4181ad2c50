/- Contract of the laws' ascendingKeys. -/
import Derived.Test.YtnjnphoidjachaaInfo
import Derived.Test.YtnjnphoidjachaaItems
namespace Go.Proofs.Ytnjnphoidjachaa
open Go.RowKit

theorem asck_false {xs : List (Int × Int)} {i : Nat} (hj : i + 1 < xs.length) (h : gk xs (i + 1) < gk xs i) : ascB (keys xs) = false := by
  refine ascB_false (i := i) (j := i + 1) (by omega) (by rw [length_keys]; exact hj) ?_
  rw [gi_keys hj, gi_keys (by omega)]
  exact h
theorem asck_adj {xs : List (Int × Int)} (h : ∀ i, i + 1 < xs.length → gk xs i ≤ gk xs (i + 1)) : ascB (keys xs) = true :=
  ascB_of_adj fun i hi => by
    rw [length_keys] at hi
    rw [gi_keys hi, gi_keys (by omega)]
    exact h i hi

set_option maxHeartbeats 400000 in
theorem ascendingKeys_calls (A : Option Addr) (c : Nat) (zs : List (Int × Int)) (w : World) (hA : Items w A zs) (hn : zs.length * 16 ≤ 140737488351232) :
    Calls Try.prog 17 #[.slice A zs.length c] w fun e w' => e = .returned (.bool (ascB (keys zs))) ∧ Draws w w' := by
  go_enter Try.func17, Try.ntmps17
  go_wp2
  go_loopw [3] (fun i wr => ∃ k : Nat, i = .int .i64 ((k : Int) + 1) ∧ k ≤ zs.length ∧ (∀ j : Nat, j < k → j + 1 < zs.length → gk zs j ≤ gk zs (j + 1)) ∧ Draws w wr) (fun i _ => zs.length - (intOf i).toNat)
  case atStart => exact ⟨0, by simp, Nat.zero_le _, fun j hj hj' => absurd hj (by omega), Draws.refl _⟩
  case round =>
    obtain ⟨m, rfl, hk, hs, hdr⟩ := hrel
    have HS := Lib.hid hs
    clear hs
    by_cases hlt : m + 1 < zs.length
    · obtain ⟨b, off, rfl, hbl, hc⟩ := hA.below hdr.below (by omega)
      have hck := (hc m (by omega)).1
      have hck' := (hc (m + 1) (by omega)).1
      clear hc hA
      have hi1 : (0 : Int) ≤ (m : Int) + 1 := by omega
      have hi2 : (m : Int) < (zs.length : Int) := by omega
      have hi3 : (m : Int) + 1 < (zs.length : Int) := by omega
      by_cases he : gk zs (m + 1) < gk zs m
      · have HX := Lib.hid (asck_false hlt he)
        go_wp2
        have hx1 : ((m : Int) + 1).toNat = m + 1 := by omega
        have hw : IntKind.i64.wrap (m : Int) = m := IntWalk.i64_in _ (by omega)
        go_quiet (fail)
        clear hx1 hw
        go_wp2
        go_ret
        exact ⟨ret_bool HX.out.symm, hdr.drewN _⟩
      · have HX := Lib.hid (Int.not_lt.1 he)
        go_wp2
        have hx1 : ((m : Int) + 1).toNat = m + 1 := by omega
        have hw : IntKind.i64.wrap (m : Int) = m := IntWalk.i64_in _ (by omega)
        go_quiet (fail)
        clear hx1 hw
        go_wp2
        go_roundw
        case rel => exact ⟨m + 1, by go_num, by omega, fun j hj hj' => by
          rcases Nat.lt_or_ge j m with h | h
          · exact HS.out j (by omega) hj'
          · obtain rfl : j = m := by omega
            exact HX.out, hdr.drewN _⟩
        case measure => simp [intOf]; omega
    · go_wp2
      go_ret
      exact ⟨ret_bool (asck_adj (fun i hi => HS.out i (by omega) hi)).symm, hdr⟩
end Go.Proofs.Ytnjnphoidjachaa
