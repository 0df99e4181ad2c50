/- The walk of FnSortPlaces. -/
import Derived.Test.YtnondbhmoflpjaaSortInts
namespace Go.Proofs.Ytnondbhmoflpjaa
open Go.RowKit

set_option maxHeartbeats 1600000 in
theorem lawSortPlaces (A : Option Addr) (c : Nat) (zs : List Int) (w : World) (hA : Ints w A zs) (hn : zs.length * 8 ≤ 140737488351232) :
    Calls Try.prog 9 #[.slice A zs.length c] w fun e w' => e = .returned (.bool true) ∧ Below w.heap.size w w' := by
  have hl := length_sortI zs
  have hq : (((sortI zs).length : Int) != (zs.length : Int)) = false := by rw [hl]; simp
  have hn1 : (sortI zs).length * 8 ≤ 140737488351232 := by omega
  have HL := Lib.hid hl
  clear hl
  go_enter Try.func9, Try.ntmps9
  go_wp2_with fail
  refine (sortInts_calls _ _ zs w hA hn).mono ?_
  rintro e w1 ⟨A1, c1, rfl, ho1, hb1⟩
  have hI1 := ho1.ints
  clear ho1
  go_wp2
  clear hq
  go_loopw [19] (fun j wr => ∃ k : Nat, k ≤ (sortI zs).length ∧ j = .int .i64 k ∧ Draws w1 wr) (fun j _ => (sortI zs).length - (intOf j).toNat)
  case atStart => exact ⟨0, Nat.zero_le _, rfl, Draws.refl _⟩
  case round =>
    obtain ⟨k, hk, rfl, hdo⟩ := hrel
    obtain ⟨wo, rfl⟩ : ∃ wo : World, wo = wr := ⟨_, rfl⟩
    by_cases hlt : k < (sortI zs).length
    · obtain ⟨b, off, rfl, hbl, hc⟩ := hI1.below hdo.below (by omega)
      have hck := hc k hlt
      clear hc
      have HP := Lib.hid (places hlt)
      go_wp2
      clear hck
      go_loopw [6, 7, 26] (fun l m i wr => ∃ a x y : Nat, a ≤ zs.length ∧ x ≤ a ∧ y ≤ a ∧ l = .int .i64 x ∧ m = .int .i64 y ∧ i = .int .i64 a ∧ x = lessN (zs.take a) (gi (sortI zs) k) ∧ y = mostN (zs.take a) (gi (sortI zs) k) ∧ Draws w1 wr) (fun _ _ i _ => zs.length - (intOf i).toNat)
      case atStart => exact ⟨0, 0, 0, Nat.zero_le _, Nat.zero_le _, Nat.zero_le _, rfl, rfl, rfl, rfl, rfl, hdo⟩
      case round =>
        obtain ⟨a, x, y, ha, hxa, hya, rfl, rfl, rfl, hx, hy, hd⟩ := hrel
        by_cases hal : a < zs.length
        · obtain ⟨b', off', rfl, hbl', hc'⟩ := (hA.below hb1).below hd.below (by omega)
          have hca := hc' a hal
          clear hc'
          have HX := Lib.hid (show lessN (zs.take (a + 1)) (gi (sortI zs) k) = x + if gi zs a < gi (sortI zs) k then 1 else 0 by rw [hx]; exact lessN_step hal)
          have HY := Lib.hid (show mostN (zs.take (a + 1)) (gi (sortI zs) k) = y + if gi zs a ≤ gi (sortI zs) k then 1 else 0 by rw [hy]; exact mostN_step hal)
          clear hx hy
          by_cases h1 : gi zs a < gi (sortI zs) k
          · have h2 : gi zs a ≤ gi (sortI zs) k := by omega
            have HX' := Lib.hid (show x + 1 = lessN (zs.take (a + 1)) (gi (sortI zs) k) by rw [HX.out, if_pos h1])
            have HY' := Lib.hid (show y + 1 = mostN (zs.take (a + 1)) (gi (sortI zs) k) by rw [HY.out, if_pos h2])
            clear HX HY
            go_wp2
            go_roundw
            case rel => exact ⟨a + 1, x + 1, y + 1, by omega, by omega, by omega, by go_num, by go_num, by go_num, HX'.out, HY'.out, hd⟩
            case measure => simp [intOf]; omega
          · by_cases h2 : gi zs a ≤ gi (sortI zs) k
            · have HX' := Lib.hid (show x = lessN (zs.take (a + 1)) (gi (sortI zs) k) by rw [HX.out, if_neg h1]; rfl)
              have HY' := Lib.hid (show y + 1 = mostN (zs.take (a + 1)) (gi (sortI zs) k) by rw [HY.out, if_pos h2])
              clear HX HY
              go_wp2
              go_roundw
              case rel => exact ⟨a + 1, x, y + 1, by omega, by omega, by omega, rfl, by go_num, by go_num, HX'.out, HY'.out, hd⟩
              case measure => simp [intOf]; omega
            · have HX' := Lib.hid (show x = lessN (zs.take (a + 1)) (gi (sortI zs) k) by rw [HX.out, if_neg h1]; rfl)
              have HY' := Lib.hid (show y = mostN (zs.take (a + 1)) (gi (sortI zs) k) by rw [HY.out, if_neg h2]; rfl)
              clear HX HY
              go_wp2
              go_roundw
              case rel => exact ⟨a + 1, x, y, by omega, by omega, by omega, rfl, rfl, by go_num, HX'.out, HY'.out, hd⟩
              case measure => simp [intOf]; omega
        · have hx' : x ≤ k := by
            have := HP.out.1
            rw [hx, List.take_of_length_le (by omega)]
            exact this
          have hy' : k < y := by
            have := HP.out.2
            rw [hy, List.take_of_length_le (by omega)]
            exact this
          clear hx hy
          go_wp2
          go_roundw
          case rel => exact ⟨k + 1, by omega, by go_num, hd⟩
          case measure => simp [intOf]; omega
    · go_wp2
      go_ret
      exact ⟨rfl, hb1.trans hdo.below⟩
end Go.Proofs.Ytnondbhmoflpjaa
