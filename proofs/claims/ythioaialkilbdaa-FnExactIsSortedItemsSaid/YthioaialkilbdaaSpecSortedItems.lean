/- Contract of the reference's IsSortedItems. -/
import Derived.Test.YthioaialkilbdaaInfo
import Derived.Test.YthioaialkilbdaaItems
namespace Go.Proofs.Ythioaialkilbdaa
open Go.RowKit

theorem keys_false {xs : List (Int × Int)} {i j : Nat} (hij : i < j) (hj : j < xs.length) (h : gk xs j < gk xs i) : ascB (keys xs) = false := by
  refine ascB_false hij (by rw [length_keys]; exact hj) ?_
  rw [gi_keys hj, gi_keys (by omega)]
  exact h
theorem keys_asc {xs : List (Int × Int)} (h : ∀ i j, i < j → j < xs.length → gk xs i ≤ gk xs j) : ascB (keys xs) = true :=
  (ascB_iff _).2 fun i j hij hj => by
    rw [length_keys] at hj
    rw [gi_keys hj, gi_keys (by omega)]
    exact h i j hij hj

set_option maxHeartbeats 800000 in
theorem specIsSortedItems_calls (A : Option Addr) (c : Nat) (zs : List (Int × Int)) (w : World) (hA : Items w A zs) (hn : zs.length * 16 ≤ 140737488351232) :
    Calls Try.prog 35 #[.slice A zs.length c] w fun e w' => e = .returned (.bool (ascB (keys zs))) ∧ Draws w w' := by
  go_enter Try.func35, Try.ntmps35
  go_wp2
  go_loopw [7] (fun j wr => ∃ k : Nat, k ≤ zs.length ∧ j = .int .i64 k ∧ (∀ a b, a < b → b < k → gk zs a ≤ gk zs b) ∧ Draws w wr) (fun j _ => zs.length - (intOf j).toNat)
  case atStart => exact ⟨0, Nat.zero_le _, rfl, fun _ _ _ h => absurd h (by omega), Draws.refl _⟩
  case round =>
    obtain ⟨k, hk, rfl, hs, hdo⟩ := hrel
    have HS := Lib.hid hs
    clear hs
    obtain ⟨wo, rfl⟩ : ∃ wo : World, wo = wr := ⟨_, rfl⟩
    by_cases hlt : k < zs.length
    · go_wp2
      go_loopw [4] (fun i wr => ∃ m : Nat, m ≤ k ∧ i = .int .i64 m ∧ (∀ a, a < m → gk zs a ≤ gk zs k) ∧ Draws w wr) (fun i _ => k - (intOf i).toNat)
      case atStart => exact ⟨0, Nat.zero_le _, rfl, fun _ h => absurd h (by omega), hdo⟩
      case round =>
        obtain ⟨m, hm, rfl, hi, hdr⟩ := hrel
        have HI := Lib.hid hi
        clear hi
        by_cases hmk : m < k
        · obtain ⟨b, off, rfl, hbl, hc⟩ := hA.below hdr.below (by omega)
          have hck := (hc m (by omega)).1
          have hck' := (hc k (by omega)).1
          have hml : m < zs.length := by omega
          clear hc hA
          by_cases he : gk zs k < gk zs m
          · have HX := Lib.hid (keys_false hmk hlt he)
            go_wp2
            go_quiet (fail)
            go_wp2
            go_ret
            exact ⟨ret_bool HX.out.symm, hdr.drewN _⟩
          · have HX := Lib.hid (Int.not_lt.1 he)
            go_wp2
            go_quiet (fail)
            go_wp2
            go_roundw
            case rel => exact ⟨m + 1, by omega, by go_num, fun a ha => by
              rcases Nat.lt_or_ge a m with h | h
              · exact HI.out a h
              · obtain rfl : a = m := by omega
                have := HX.out
                omega, hdr.drewN _⟩
            case measure => simp [intOf]; omega
        · go_wp2
          go_roundw
          case rel => exact ⟨k + 1, by omega, by go_num, fun a b hab hb => by
            rcases Nat.lt_or_ge b k with h | h
            · exact HS.out a b hab h
            · obtain rfl : b = k := by omega
              exact HI.out a (by omega), hdr⟩
          case measure => simp [intOf]; omega
    · go_wp2
      go_ret
      exact ⟨ret_bool (keys_asc fun a b hab hb => HS.out a b hab (by omega)).symm, hdo⟩
end Go.Proofs.Ythioaialkilbdaa
