/- Contracts of slices.IsSorted at int and of IsSortedInts. (The same for lists up to the greatest length that memory bears.) -/
import Derived.Test.YtnondbhmoflpjaaLessInt
namespace Go.Proofs.Ytnondbhmoflpjaa
open Go.RowKit

set_option maxHeartbeats 400000 in
theorem isSorted_callsW (A : Option Addr) (c : Nat) (zs : List Int) (w : World) (hA : Ints w A zs) (hn : zs.length * 8 ≤ 140737488355328) :
    Calls Try.prog 36 #[.slice A zs.length c] w fun e w' => e = .returned (.bool (ascB zs)) ∧ Draws w w' := by
  go_enter Try.func36, Try.ntmps36
  go_wp2
  go_loopw [3] (fun i wr => ∃ k : Int, k < zs.length ∧ -1 ≤ k ∧ i = .int .i64 k ∧ (∀ j : Nat, k ≤ j → j + 1 < zs.length → gi zs j ≤ gi zs (j + 1)) ∧ Draws w wr) (fun i _ => (intOf i).toNat)
  case atStart => exact ⟨(zs.length : Int) - 1, by omega, by omega, rfl, fun j hj hj' => absurd hj (by omega), Draws.refl _⟩
  case round =>
    obtain ⟨k, hk, hk1, rfl, hs, hdr⟩ := hrel
    have HS := Lib.hid hs
    clear hs
    by_cases hlt : 0 < k
    · obtain ⟨m, rfl⟩ : ∃ m : Nat, k = (m : Int) + 1 := ⟨(k - 1).toNat, by omega⟩
      obtain ⟨b, off, rfl, hbl, hc⟩ := hA.below hdr.below (by omega)
      have hck := hc m (by omega)
      have hck' := hc (m + 1) (by omega)
      clear hc hA
      have hi1 : (0 : Int) ≤ (m : Int) + 1 := by omega
      have hi2 : (m : Int) < (zs.length : Int) := by omega
      have hm : m + 1 < zs.length := by omega
      by_cases he : gi zs (m + 1) < gi zs m
      · have HE := Lib.hid he
        have HX := Lib.hid (ascB_false (zs := zs) (i := m) (j := m + 1) (by omega) (by omega) he)
        clear he
        go_wp2
        have hx1 : ((m : Int) + 1).toNat = m + 1 := by omega
        have hw : IntKind.i64.wrap (m : Int) = m := IntWalk.i64_in _ (by omega)
        go_quiet ((go_at_call 49; exact quietD (less_int_t _ _ _ HE.out)))
        clear hx1 hw
        go_wp2
        go_ret
        exact ⟨ret_bool HX.out.symm, hdr.drewN _⟩
      · have HX := Lib.hid (Int.not_lt.1 he)
        clear he
        go_wp2
        have hx1 : ((m : Int) + 1).toNat = m + 1 := by omega
        have hw : IntKind.i64.wrap (m : Int) = m := IntWalk.i64_in _ (by omega)
        go_quiet ((go_at_call 49; exact quietD (less_int_f _ _ _ HX.out)))
        clear hx1 hw
        go_wp2
        go_roundw
        case rel => exact ⟨m, by omega, by omega, by go_num, fun j hj hj' => by
          rcases Nat.lt_or_ge m j with h | h
          · exact HS.out j (by omega) hj'
          · obtain rfl : j = m := by omega
            have := HX.out
            omega, hdr.drewN _⟩
        case measure => simp [intOf]
    · go_wp2
      go_ret
      exact ⟨ret_bool (ascB_of_adj (fun i hi => HS.out i (by omega) hi)).symm, hdr⟩

theorem isSortedInts_callsW (A : Option Addr) (c : Nat) (zs : List Int) (w : World) (hA : Ints w A zs) (hn : zs.length * 8 ≤ 140737488355328) :
    Calls Try.prog 25 #[.slice A zs.length c] w fun e w' => e = .returned (.bool (ascB zs)) ∧ Draws w w' := by
  go_enter Try.func25, Try.ntmps25
  go_wp2_with (go_at_call 36; refine (isSorted_callsW _ _ _ _ hA hn).mono ?_; rintro e w' ⟨rfl, hd⟩)
  go_ret
  exact ⟨rfl, hd⟩

end Go.Proofs.Ytnondbhmoflpjaa
