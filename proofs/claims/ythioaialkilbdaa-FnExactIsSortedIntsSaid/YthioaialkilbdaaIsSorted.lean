/- Contracts: is a list of numbers sorted, by the library and by the reference. -/
import Derived.Test.YthioaialkilbdaaInts
namespace Go.Proofs.Ythioaialkilbdaa
open Go.RowKit

theorem less_int (a b : Int) (w : World) : Calls Try.prog 72 #[.int .i64 a, .int .i64 b] w fun e w' => e = .returned (.bool (decide (a < b))) ∧ Draws w w' := by
  by_cases h : a < b
  all_goals
    have h1 : (a != a) = false := by simp
    go_enter Try.func72, Try.ntmps72
    go_wp2
    go_ret
    exact ⟨ret_bool (by simp [h]), Draws.refl _⟩

theorem less_int_t (a b : Int) (w : World) (h : a < b) : Calls Try.prog 72 #[.int .i64 a, .int .i64 b] w fun e w' => e = .returned (.bool true) ∧ Draws w w' :=
  (less_int a b w).mono fun _ _ ⟨he, hd⟩ => ⟨he.trans (ret_bool (by simp [h])), hd⟩
theorem less_int_f (a b : Int) (w : World) (h : b ≤ a) : Calls Try.prog 72 #[.int .i64 a, .int .i64 b] w fun e w' => e = .returned (.bool false) ∧ Draws w w' :=
  (less_int a b w).mono fun _ _ ⟨he, hd⟩ => ⟨he.trans (ret_bool (by simp; omega)), hd⟩

set_option maxHeartbeats 400000 in
theorem isSorted_calls (A : Option Addr) (c : Nat) (zs : List Int) (w : World) (hA : Ints w A zs) (hn : zs.length * 8 ≤ 140737488351232) :
    Calls Try.prog 49 #[.slice A zs.length c] w fun e w' => e = .returned (.bool (ascB zs)) ∧ Draws w w' := by
  go_enter Try.func49, Try.ntmps49
  go_wp2
  go_loopw [3] (fun i wr => ∃ k : Int, k < zs.length ∧ -1 ≤ k ∧ i = .int .i64 k ∧ (∀ j : Nat, k ≤ j → j + 1 < zs.length → gi zs j ≤ gi zs (j + 1)) ∧ Draws w wr) (fun i _ => (intOf i).toNat)
  case atStart => exact ⟨(zs.length : Int) - 1, by omega, by omega, rfl, fun j hj hj' => absurd hj (by omega), Draws.refl _⟩
  case round =>
    obtain ⟨k, hk, hk1, rfl, hs, hdr⟩ := hrel
    have HS := Lib.hid hs
    clear hs
    by_cases hlt : 0 < k
    · obtain ⟨m, rfl⟩ : ∃ m : Nat, k = (m : Int) + 1 := ⟨(k - 1).toNat, by omega⟩
      obtain ⟨b, off, rfl, hbl, hc⟩ := hA.below hdr.below (by omega)
      have hck := hc m (by omega)
      have hck' := hc (m + 1) (by omega)
      clear hc hA
      have hi1 : (0 : Int) ≤ (m : Int) + 1 := by omega
      have hi2 : (m : Int) < (zs.length : Int) := by omega
      have hm : m + 1 < zs.length := by omega
      by_cases he : gi zs (m + 1) < gi zs m
      · have HE := Lib.hid he
        have HX := Lib.hid (ascB_false (zs := zs) (i := m) (j := m + 1) (by omega) (by omega) he)
        clear he
        go_wp2
        have hx1 : ((m : Int) + 1).toNat = m + 1 := by omega
        have hw : IntKind.i64.wrap (m : Int) = m := IntWalk.i64_in _ (by omega)
        go_quiet ((go_at_call 72; exact quietD (less_int_t _ _ _ HE.out)))
        clear hx1 hw
        go_wp2
        go_ret
        exact ⟨ret_bool HX.out.symm, hdr.drewN _⟩
      · have HX := Lib.hid (Int.not_lt.1 he)
        clear he
        go_wp2
        have hx1 : ((m : Int) + 1).toNat = m + 1 := by omega
        have hw : IntKind.i64.wrap (m : Int) = m := IntWalk.i64_in _ (by omega)
        go_quiet ((go_at_call 72; exact quietD (less_int_f _ _ _ HX.out)))
        clear hx1 hw
        go_wp2
        go_roundw
        case rel => exact ⟨m, by omega, by omega, by go_num, fun j hj hj' => by
          rcases Nat.lt_or_ge m j with h | h
          · exact HS.out j (by omega) hj'
          · obtain rfl : j = m := by omega
            have := HX.out
            omega, hdr.drewN _⟩
        case measure => simp [intOf]
    · go_wp2
      go_ret
      exact ⟨ret_bool (ascB_of_adj (fun i hi => HS.out i (by omega) hi)).symm, hdr⟩

theorem isSortedInts_calls (A : Option Addr) (c : Nat) (zs : List Int) (w : World) (hA : Ints w A zs) (hn : zs.length * 8 ≤ 140737488351232) :
    Calls Try.prog 17 #[.slice A zs.length c] w fun e w' => e = .returned (.bool (ascB zs)) ∧ Draws w w' := by
  go_enter Try.func17, Try.ntmps17
  go_wp2_with (go_at_call 49; refine (isSorted_calls _ _ _ _ hA hn).mono ?_; rintro e w' ⟨rfl, hd⟩)
  go_ret
  exact ⟨rfl, hd⟩

set_option maxHeartbeats 800000 in
theorem specIsSortedInts_calls (A : Option Addr) (c : Nat) (zs : List Int) (w : World) (hA : Ints w A zs) (hn : zs.length * 8 ≤ 140737488351232) :
    Calls Try.prog 15 #[.slice A zs.length c] w fun e w' => e = .returned (.bool (ascB zs)) ∧ Draws w w' := by
  go_enter Try.func15, Try.ntmps15
  go_wp2
  go_loopw [7] (fun j wr => ∃ k : Nat, k ≤ zs.length ∧ j = .int .i64 k ∧ (∀ a b, a < b → b < k → gi zs a ≤ gi zs b) ∧ Draws w wr) (fun j _ => zs.length - (intOf j).toNat)
  case atStart => exact ⟨0, Nat.zero_le _, rfl, fun _ _ _ h => absurd h (by omega), Draws.refl _⟩
  case round =>
    obtain ⟨k, hk, rfl, hs, hdo⟩ := hrel
    have HS := Lib.hid hs
    clear hs
    obtain ⟨wo, rfl⟩ : ∃ wo : World, wo = wr := ⟨_, rfl⟩
    by_cases hlt : k < zs.length
    · go_wp2
      go_loopw [4] (fun i wr => ∃ m : Nat, m ≤ k ∧ i = .int .i64 m ∧ (∀ a, a < m → gi zs a ≤ gi zs k) ∧ Draws w wr) (fun i _ => k - (intOf i).toNat)
      case atStart => exact ⟨0, Nat.zero_le _, rfl, fun _ h => absurd h (by omega), hdo⟩
      case round =>
        obtain ⟨m, hm, rfl, hi, hdr⟩ := hrel
        have HI := Lib.hid hi
        clear hi
        by_cases hmk : m < k
        · obtain ⟨b, off, rfl, hbl, hc⟩ := hA.below hdr.below (by omega)
          have hck := hc m (by omega)
          have hck' := hc k (by omega)
          have hml : m < zs.length := by omega
          clear hc hA
          by_cases he : gi zs k < gi zs m
          · have HX := Lib.hid (ascB_false (zs := zs) hmk hlt he)
            go_wp2
            go_quiet (fail)
            go_wp2
            go_ret
            exact ⟨ret_bool HX.out.symm, hdr.drewN _⟩
          · have HX := Lib.hid (Int.not_lt.1 he)
            go_wp2
            go_quiet (fail)
            go_wp2
            go_roundw
            case rel => exact ⟨m + 1, by omega, by go_num, fun a ha => by
              rcases Nat.lt_or_ge a m with h | h
              · exact HI.out a h
              · obtain rfl : a = m := by omega
                have := HX.out
                omega, hdr.drewN _⟩
            case measure => simp [intOf]; omega
        · go_wp2
          go_roundw
          case rel => exact ⟨k + 1, by omega, by go_num, fun a b hab hb => by
            rcases Nat.lt_or_ge b k with h | h
            · exact HS.out a b hab h
            · obtain rfl : b = k := by omega
              exact HI.out a (by omega), hdr⟩
          case measure => simp [intOf]; omega
    · go_wp2
      go_ret
      exact ⟨ret_bool ((ascB_iff zs).2 fun a b hab hb => HS.out a b hab (by omega)).symm, hdo⟩
end Go.Proofs.Ythioaialkilbdaa
