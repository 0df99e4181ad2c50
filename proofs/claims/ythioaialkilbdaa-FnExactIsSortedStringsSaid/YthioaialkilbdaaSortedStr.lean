/- Contracts of slices.IsSorted at string and of IsSortedStrings. -/
import Derived.Test.YthioaialkilbdaaLessStr
namespace Go.Proofs.Ythioaialkilbdaa
open Go.RowKit

set_option maxHeartbeats 400000 in
theorem isSortedStr_calls (A : Option Addr) (c : Nat) (zs : List ByteArray) (w : World) (hA : Strs w A zs) (hn : zs.length * 16 ≤ 140737488351232) :
    Calls Try.prog 51 #[.slice A zs.length c] w fun e w' => e = .returned (.bool (ascS zs)) ∧ Draws w w' := by
  go_enter Try.func51, Try.ntmps51
  go_wp2
  go_loopw [3] (fun i wr => ∃ k : Int, k < zs.length ∧ -1 ≤ k ∧ i = .int .i64 k ∧ (∀ j : Nat, k ≤ j → j + 1 < zs.length → sl (gs zs (j + 1)) (gs zs j) = false) ∧ Draws w wr) (fun i _ => (intOf i).toNat)
  case atStart => exact ⟨(zs.length : Int) - 1, by omega, by omega, rfl, fun j hj hj' => absurd hj (by omega), Draws.refl _⟩
  case round =>
    obtain ⟨k, hk, hk1, rfl, hs, hdr⟩ := hrel
    have HS := Lib.hid hs
    clear hs
    by_cases hlt : 0 < k
    · obtain ⟨m, rfl⟩ : ∃ m : Nat, k = (m : Int) + 1 := ⟨(k - 1).toNat, by omega⟩
      obtain ⟨b, off, rfl, hbl, hc⟩ := hA.below hdr.below (by omega)
      have hck := hc m (by omega)
      have hck' := hc (m + 1) (by omega)
      clear hc hA
      have hi1 : (0 : Int) ≤ (m : Int) + 1 := by omega
      have hi2 : (m : Int) < (zs.length : Int) := by omega
      have hm : m + 1 < zs.length := by omega
      by_cases he : sl (gs zs (m + 1)) (gs zs m) = true
      · have HE := Lib.hid he
        have HX := Lib.hid (ascS_false (ss := zs) (i := m) (j := m + 1) (by omega) (by omega) he)
        clear he
        go_wp2
        have hx1 : ((m : Int) + 1).toNat = m + 1 := by omega
        have hw : IntKind.i64.wrap (m : Int) = m := IntWalk.i64_in _ (by omega)
        go_quiet ((go_at_call 73; exact quietD (less_str_t _ _ _ HE.out)))
        clear hx1 hw
        go_wp2
        go_ret
        exact ⟨ret_bool HX.out.symm, hdr.drewN _⟩
      · have HX := Lib.hid (Bool.eq_false_iff.2 he)
        clear he
        go_wp2
        have hx1 : ((m : Int) + 1).toNat = m + 1 := by omega
        have hw : IntKind.i64.wrap (m : Int) = m := IntWalk.i64_in _ (by omega)
        go_quiet ((go_at_call 73; exact quietD (less_str_f _ _ _ HX.out)))
        clear hx1 hw
        go_wp2
        go_roundw
        case rel => exact ⟨m, by omega, by omega, by go_num, fun j hj hj' => by
          rcases Nat.lt_or_ge m j with h | h
          · exact HS.out j (by omega) hj'
          · obtain rfl : j = m := by omega
            exact HX.out, hdr.drewN _⟩
        case measure => simp [intOf]
    · go_wp2
      go_ret
      exact ⟨ret_bool (ascS_of_adj (fun i hi => HS.out i (by omega) hi)).symm, hdr⟩

theorem isSortedStrings_calls (A : Option Addr) (c : Nat) (zs : List ByteArray) (w : World) (hA : Strs w A zs) (hn : zs.length * 16 ≤ 140737488351232) :
    Calls Try.prog 22 #[.slice A zs.length c] w fun e w' => e = .returned (.bool (ascS zs)) ∧ Draws w w' := by
  go_enter Try.func22, Try.ntmps22
  go_wp2_with (go_at_call 51; refine (isSortedStr_calls _ _ _ _ hA hn).mono ?_; rintro e w' ⟨rfl, hd⟩)
  go_ret
  exact ⟨rfl, hd⟩

end Go.Proofs.Ythioaialkilbdaa
