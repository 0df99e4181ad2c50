/- Contracts of slices.IsSortedFunc by byKey, and of IsSortedItems. -/
import Derived.Test.YthioaialkilbdaaByKey
import Derived.StillTailTactics
namespace Go.Proofs.Ythioaialkilbdaa
open Go.RowKit

theorem keys_false' {xs : List (Int × Int)} {i : Nat} (hj : i + 1 < xs.length) (h : gk xs (i + 1) < gk xs i) : ascB (keys xs) = false := by
  refine ascB_false (i := i) (j := i + 1) (by omega) (by rw [length_keys]; exact hj) ?_
  rw [gi_keys hj, gi_keys (by omega)]
  exact h
theorem keys_adj {xs : List (Int × Int)} (h : ∀ i, i + 1 < xs.length → gk xs i ≤ gk xs (i + 1)) : ascB (keys xs) = true :=
  ascB_of_adj fun i hi => by
    rw [length_keys] at hi
    rw [gi_keys hi, gi_keys (by omega)]
    exact h i hi

set_option maxHeartbeats 800000 in
theorem isSortedFuncItems_calls (A : Option Addr) (c : Nat) (zs : List (Int × Int)) (w : World) (hA : Items w A zs) (hn : zs.length * 16 ≤ 140737488351232) :
    Calls Try.prog 63 #[.slice A zs.length c, .func (.func 64) #[] #[]] w fun e w' => e = .returned (.bool (ascB (keys zs))) ∧ Below w.heap.size w w' := by
  go_enter Try.func63, Try.ntmps63
  go_wp2
  go_loopw [5] (fun i wr => ∃ k : Int, k < zs.length ∧ -1 ≤ k ∧ i = .int .i64 k ∧ (∀ j : Nat, k ≤ j → j + 1 < zs.length → gk zs j ≤ gk zs (j + 1)) ∧ Below w.heap.size w wr) (fun i _ => (intOf i).toNat)
  case atStart => exact ⟨(zs.length : Int) - 1, by omega, by omega, rfl, fun j hj hj' => absurd hj (by omega), Below.refl _ _⟩
  case round =>
    obtain ⟨k, hk, hk1, rfl, hs, hb⟩ := hrel
    have HS := Lib.hid hs
    clear hs
    by_cases hlt : 0 < k
    · obtain ⟨m, rfl⟩ : ∃ m : Nat, k = (m : Int) + 1 := ⟨(k - 1).toNat, by omega⟩
      obtain ⟨b, off, rfl, hbl, hc⟩ := hA.below hb (by omega)
      obtain ⟨hck1, hck2⟩ := hc m (by omega)
      obtain ⟨hck3, hck4⟩ := hc (m + 1) (by omega)
      clear hc hA
      have hi1 : (0 : Int) ≤ (m : Int) + 1 := by omega
      have hi2 : (m : Int) < (zs.length : Int) := by omega
      have hm : m + 1 < zs.length := by omega
      have hx1 : ((m : Int) + 1).toNat = m + 1 := by omega
      have hw : IntKind.i64.wrap (m : Int) = m := IntWalk.i64_in _ (by omega)
      go_wp2
      go_still_tail 10, (by kernel_rfl)
      change wpList _ _ _ _ _ wr.drew
      go_wp2_with fail
      refine (byKey_calls _ _ _ _ _).mono ?_
      rintro e w1 ⟨rfl, hw1⟩
      have hb1 : Below w.heap.size w w1 := by
        rw [hw1]
        exact (hb.drew.alloc hb.size _).alloc (by simp; have := hb.size; omega) _
      clear hw1 hck1 hck2 hck3 hck4 hx1 hw
      by_cases he : gk zs (m + 1) < gk zs m
      · have HX := Lib.hid (keys_false' hm he)
        have hq : cmpI (gk zs (m + 1)) (gk zs m) < 0 := cmpI_lt.2 he
        clear he
        go_wp2
        go_ret
        exact ⟨ret_bool HX.out.symm, hb1⟩
      · have HX := Lib.hid (Int.not_lt.1 he)
        have hq : ¬ cmpI (gk zs (m + 1)) (gk zs m) < 0 := fun h => he (cmpI_lt.1 h)
        clear he
        go_wp2
        go_roundw
        case rel => exact ⟨m, by omega, by omega, by go_num, fun j hj hj' => by
          rcases Nat.lt_or_ge m j with h | h
          · exact HS.out j (by omega) hj'
          · obtain rfl : j = m := by omega
            exact HX.out, hb1⟩
        case measure => simp [intOf]
    · go_wp2
      go_ret
      exact ⟨ret_bool (keys_adj (fun i hi => HS.out i (by omega) hi)).symm, hb⟩

theorem isSortedItems_calls (A : Option Addr) (c : Nat) (zs : List (Int × Int)) (w : World) (hA : Items w A zs) (hn : zs.length * 16 ≤ 140737488351232) :
    Calls Try.prog 37 #[.slice A zs.length c] w fun e w' => e = .returned (.bool (ascB (keys zs))) ∧ Below w.heap.size w w' := by
  go_enter Try.func37, Try.ntmps37
  go_wp2_with fail
  refine (isSortedFuncItems_calls _ _ zs _ hA hn).mono ?_
  rintro e w' ⟨rfl, hb⟩
  go_wp2
  go_ret
  exact ⟨rfl, hb⟩
end Go.Proofs.Ythioaialkilbdaa
