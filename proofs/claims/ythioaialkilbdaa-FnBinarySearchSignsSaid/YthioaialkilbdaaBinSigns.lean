/- Contracts for a binary search by signs: the library's, the thin package's, the reference's. -/
import Derived.Test.YthioaialkilbdaaInfo
namespace Go.Proofs.Ythioaialkilbdaa
open Go.RowKit

theorem signsCmp_calls (a b : Int) (w : World) : Calls Try.prog 61 #[.int .i64 a, .int .i64 b] w fun e w' => e = .returned (.int .i64 a) ∧ Draws w w' := by
  go_enter Try.func61, Try.ntmps61
  go_wp2
  go_ret
  exact ⟨rfl, Draws.refl _⟩

set_option maxHeartbeats 800000 in
theorem binarySearchFuncInt_calls (A : Option Addr) (c : Nat) (zs : List Int) (w : World) (hA : Ints w A zs) (hn : zs.length * 8 ≤ 140737488351232) :
    Calls Try.prog 60 #[.slice A zs.length c, .int .i64 0, .func (.func 61) #[] #[]] w (BsInts zs 0 w) := by
  go_enter Try.func60, Try.ntmps60
  go_wp2
  go_loopw [9, 10] (fun a b wr => ∃ i j : Nat, i ≤ j ∧ j ≤ zs.length ∧ a = .int .i64 i ∧ b = .int .i64 j ∧ (∀ k, k + 1 = i → gi zs k < 0) ∧ (j < zs.length → 0 ≤ gi zs j) ∧ Draws w wr) (fun a b _ => ((intOf b) - (intOf a)).toNat)
  case atStart => exact ⟨0, zs.length, Nat.zero_le _, Nat.le_refl _, rfl, rfl, fun k hk => absurd hk (by omega), fun h => absurd h (by omega), Draws.refl _⟩
  case round =>
    obtain ⟨i, j, hij, hj, rfl, rfl, h1, h2, hd⟩ := hrel
    have H1 := Lib.hid h1
    have H2 := Lib.hid h2
    clear h1 h2
    by_cases hlt : i < j
    · obtain ⟨b, off, rfl, hbl, hc⟩ := hA.below hd.below (by omega)
      have hck := hc ((i + j) / 2) (by omega)
      have hx0 : (0 : Int) ≤ ((i : Int) + (j : Int)) / 2 := by omega
      have hx1 : ((i : Int) + (j : Int)) / 2 < (zs.length : Int) := by omega
      have hx2 := half_toNat i j
      clear hc hA
      by_cases he : gi zs ((i + j) / 2) < 0
      · have HE := Lib.hid he
        go_wp2_with (go_at_call 61; refine (signsCmp_calls _ _ _).mono ?_; rintro e w' ⟨rfl, hd'⟩)
        go_roundw
        case rel => exact ⟨(i + j) / 2 + 1, j, by omega, hj, by go_num, rfl, fun k hk => by
          obtain rfl : k = (i + j) / 2 := by omega
          exact HE.out, H2.out, hd.trans hd'⟩
        case measure => simp [intOf]; omega
      · have HE := Lib.hid (Int.not_lt.1 he)
        go_wp2_with (go_at_call 61; refine (signsCmp_calls _ _ _).mono ?_; rintro e w' ⟨rfl, hd'⟩)
        go_roundw
        case rel => exact ⟨i, (i + j) / 2, by omega, by omega, rfl, by go_num, H1.out, fun _ => HE.out, hd.trans hd'⟩
        case measure => simp [intOf]; omega
    · obtain rfl : i = j := by omega
      have HF : Hid (Found zs.length (fun j => gi zs j < 0) i) := ⟨hj, H1.out, fun h => Int.not_lt.2 (H2.out h)⟩
      by_cases hi : i < zs.length
      · obtain ⟨b, off, rfl, hbl, hc⟩ := hA.below hd.below (by omega)
        have hck := hc i hi
        clear hc hA
        by_cases he : gi zs i = 0
        · have hq : (gi zs i == 0) = true := by simp [he]
          have HQ := Lib.hid hq
          clear he
          go_wp2_with (go_at_call 61; refine (signsCmp_calls _ _ _).mono ?_; rintro e w' ⟨rfl, hd'⟩)
          go_ret2
          exact ⟨i, HF.out, ret_ib rfl (by rw [HQ.out]; simp [hi]), hd.trans hd'⟩
        · have hq : (gi zs i == 0) = false := by simp [he]
          have HQ := Lib.hid hq
          clear he
          go_wp2_with (go_at_call 61; refine (signsCmp_calls _ _ _).mono ?_; rintro e w' ⟨rfl, hd'⟩)
          go_ret2
          exact ⟨i, HF.out, ret_ib rfl (by rw [HQ.out]; simp), hd.trans hd'⟩
      · go_wp2_with fail
        go_ret2
        exact ⟨i, HF.out, ret_ib rfl (by simp [hi]), hd⟩


theorem binarySearchSigns_calls (A : Option Addr) (c : Nat) (zs : List Int) (w : World) (hA : Ints w A zs) (hn : zs.length * 8 ≤ 140737488351232) (hs : signed zs) :
    Calls Try.prog 32 #[.slice A zs.length c] w fun e w' => e = .returned (.tuple #[.int .i64 (lessN zs 0), .bool (hasB zs 0)]) ∧ Draws w w' := by
  have HS := Lib.hid hs
  clear hs
  go_enter Try.func32, Try.ntmps32
  go_wp2_with fail
  refine (binarySearchFuncInt_calls _ _ zs _ hA hn).mono ?_
  rintro e w1 ⟨i, hf, rfl, hd⟩
  have HF := Lib.hid (signs_found HS.out hf)
  clear hf
  go_wp2
  go_ret2
  exact ⟨ret_ib (by rw [HF.out.1]) HF.out.2.symm, hd⟩

set_option maxHeartbeats 400000 in
theorem specBinarySearchSigns_calls (A : Option Addr) (c : Nat) (zs : List Int) (w : World) (hA : Ints w A zs) (hn : zs.length * 8 ≤ 140737488351232) :
    Calls Try.prog 33 #[.slice A zs.length c] w fun e w' => e = .returned (.tuple #[.int .i64 (lessN zs 0), .bool (hasB zs 0)]) ∧ Draws w w' := by
  go_enter Try.func33, Try.ntmps33
  go_wp2
  go_loopw [4, 5, 10] (fun n f i wr => ∃ (k m : Nat) (b : Bool), k ≤ zs.length ∧ m ≤ k ∧ n = .int .i64 m ∧ f = .bool b ∧ i = .int .i64 k ∧ m = lessN (zs.take k) 0 ∧ b = hasB (zs.take k) 0 ∧ Draws w wr) (fun _ _ i _ => zs.length - (intOf i).toNat)
  case atStart => exact ⟨0, 0, false, Nat.zero_le _, Nat.zero_le _, rfl, rfl, rfl, rfl, rfl, Draws.refl _⟩
  case round =>
    obtain ⟨k, m, b, hk, hmk, rfl, rfl, rfl, hm, hb, hd⟩ := hrel
    by_cases hlt : k < zs.length
    · obtain ⟨bk, off, rfl, hbl, hc⟩ := hA.below hd.below (by omega)
      have hck := hc k hlt
      have HM := Lib.hid (show lessN (zs.take (k + 1)) 0 = m + if gi zs k < 0 then 1 else 0 by rw [hm]; exact lessN_step hlt)
      have HB := Lib.hid (show hasB (zs.take (k + 1)) 0 = (b || (gi zs k == 0)) by rw [hb]; exact hasB_step hlt)
      clear hc hA hm hb
      by_cases hl : gi zs k < 0
      · have hq : (gi zs k == 0) = false := by simp; omega
        have HM' := Lib.hid (show m + 1 = lessN (zs.take (k + 1)) 0 by rw [HM.out, if_pos hl])
        have HB' := Lib.hid (show b = hasB (zs.take (k + 1)) 0 by rw [HB.out, hq]; simp)
        clear HM HB
        cases b
        all_goals
          go_wp2
          go_roundw
          case rel => exact ⟨k + 1, m + 1, _, by omega, by omega, by go_num, rfl, by go_num, HM'.out, HB'.out, hd⟩
          case measure => simp [intOf]; omega
      · have HM' := Lib.hid (show m = lessN (zs.take (k + 1)) 0 by rw [HM.out, if_neg hl]; rfl)
        by_cases he : gi zs k = 0
        · have hq : (gi zs k == 0) = true := by simp [he]
          have HB' := Lib.hid (show true = hasB (zs.take (k + 1)) 0 by rw [HB.out, hq]; simp)
          clear HM HB he
          cases b
          all_goals
            go_wp2
            go_roundw
            case rel => exact ⟨k + 1, m, true, by omega, by omega, rfl, rfl, by go_num, HM'.out, HB'.out, hd⟩
            case measure => simp [intOf]; omega
        · have hq : (gi zs k == 0) = false := by simp [he]
          have HB' := Lib.hid (show b = hasB (zs.take (k + 1)) 0 by rw [HB.out, hq]; simp)
          clear HM HB he
          cases b
          all_goals
            go_wp2
            go_roundw
            case rel => exact ⟨k + 1, m, _, by omega, by omega, rfl, rfl, by go_num, HM'.out, HB'.out, hd⟩
            case measure => simp [intOf]; omega
    · have HM := Lib.hid (show m = lessN zs 0 by rw [hm, List.take_of_length_le (by omega)])
      have HB := Lib.hid (show b = hasB zs 0 by rw [hb, List.take_of_length_le (by omega)])
      clear hm hb
      go_wp2
      go_ret2
      exact ⟨ret_ib (by rw [HM.out]) HB.out, hd⟩
end Go.Proofs.Ythioaialkilbdaa
