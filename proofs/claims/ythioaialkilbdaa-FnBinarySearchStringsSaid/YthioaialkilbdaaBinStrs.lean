/- Contracts of slices.BinarySearch at string and of BinarySearchStrings. -/
import Derived.Test.YthioaialkilbdaaLessStr
import Derived.Test.YthioaialkilbdaaBinStrPlain
namespace Go.Proofs.Ythioaialkilbdaa
open Go.RowKit

theorem isNaNStr_calls (a : ByteArray) (w : World) : Calls Try.prog 75 #[.string a] w fun e w' => e = .returned (.bool false) ∧ Draws w w' := by
  go_enter Try.func75, Try.ntmps75
  go_wp2
  go_ret
  exact ⟨rfl, Draws.refl _⟩

set_option maxHeartbeats 800000 in
theorem binarySearchStr_calls (A : Option Addr) (c : Nat) (zs : List ByteArray) (v : ByteArray) (w : World) (hA : Strs w A zs) (hn : zs.length * 16 ≤ 140737488351232) :
    Calls Try.prog 71 #[.slice A zs.length c, .string v] w (BsStrs zs v w) := by
  go_enter Try.func71, Try.ntmps71
  go_wp2
  go_loopw [7, 8] (fun a b wr => ∃ i j : Nat, i ≤ j ∧ j ≤ zs.length ∧ a = .int .i64 i ∧ b = .int .i64 j ∧ (∀ k, k + 1 = i → sl (gs zs k) v = true) ∧ (j < zs.length → sl (gs zs j) v = false) ∧ Draws w wr) (fun a b _ => ((intOf b) - (intOf a)).toNat)
  case atStart => exact ⟨0, zs.length, Nat.zero_le _, Nat.le_refl _, rfl, rfl, fun k hk => absurd hk (by omega), fun h => absurd h (by omega), Draws.refl _⟩
  case round =>
    obtain ⟨i, j, hij, hj, rfl, rfl, h1, h2, hd⟩ := hrel
    have H1 := Lib.hid h1
    have H2 := Lib.hid h2
    clear h1 h2
    by_cases hlt : i < j
    · obtain ⟨b, off, rfl, hbl, hc⟩ := hA.below hd.below (by omega)
      have hck := hc ((i + j) / 2) (by omega)
      have hx0 : (0 : Int) ≤ ((i : Int) + (j : Int)) / 2 := by omega
      have hx1 : ((i : Int) + (j : Int)) / 2 < (zs.length : Int) := by omega
      have hx2 := half_toNat i j
      clear hc hA
      by_cases he : sl (gs zs ((i + j) / 2)) v = true
      · have HE := Lib.hid he
        clear he
        go_wp2_with (go_at_call 73; refine (less_str_t _ _ _ HE.out).mono ?_; rintro e w' ⟨rfl, hd'⟩)
        go_roundw
        case rel => exact ⟨(i + j) / 2 + 1, j, by omega, hj, by go_num, rfl, fun k hk => by
          obtain rfl : k = (i + j) / 2 := by omega
          exact HE.out, H2.out, hd.trans hd'⟩
        case measure => simp [intOf]; omega
      · have HE := Lib.hid (Bool.eq_false_iff.2 he)
        clear he
        go_wp2_with (go_at_call 73; refine (less_str_f _ _ _ HE.out).mono ?_; rintro e w' ⟨rfl, hd'⟩)
        go_roundw
        case rel => exact ⟨i, (i + j) / 2, by omega, by omega, rfl, by go_num, H1.out, fun _ => HE.out, hd.trans hd'⟩
        case measure => simp [intOf]; omega
    · obtain rfl : i = j := by omega
      have HF : Hid (Found zs.length (fun j => sl (gs zs j) v = true) i) := ⟨hj, H1.out, fun h => Bool.eq_false_iff.1 (H2.out h)⟩
      by_cases hi : i < zs.length
      · obtain ⟨b, off, rfl, hbl, hc⟩ := hA.below hd.below (by omega)
        have hck := hc i hi
        clear hc hA
        by_cases he : gs zs i = v
        · have hq : ((gs zs i).toList == v.toList) = true := by rw [str_eq_iff]; simp [he]
          have HQ := Lib.hid he
          clear he
          go_wp2_with (go_at_call 75; refine (isNaNStr_calls _ _).mono ?_; rintro e w' ⟨rfl, hd'⟩)
          go_ret2
          exact ⟨i, HF.out, ret_ib rfl (by simp [hi, HQ.out]), hd⟩
        · have hq : ((gs zs i).toList == v.toList) = false := by rw [str_eq_iff]; simp [he]
          have HQ := Lib.hid he
          clear he
          go_wp2_with (go_at_call 75; refine (isNaNStr_calls _ _).mono ?_; rintro e w' ⟨rfl, hd'⟩)
          go_ret2
          exact ⟨i, HF.out, ret_ib rfl (by simp [HQ.out]), hd.trans hd'⟩
      · go_wp2_with fail
        go_ret2
        exact ⟨i, HF.out, ret_ib rfl (by simp [hi]), hd⟩

theorem binarySearchStrings_calls (A : Option Addr) (c : Nat) (zs : List ByteArray) (v : ByteArray) (w : World) (hA : Strs w A zs) (hn : zs.length * 16 ≤ 140737488351232) :
    Calls Try.prog 47 #[.slice A zs.length c, .string v] w (BsStrs zs v w) := by
  go_enter Try.func47, Try.ntmps47
  go_wp2_with fail
  refine (binarySearchStr_calls _ _ zs v _ hA hn).mono ?_
  rintro e w1 ⟨i, hf, rfl, hd⟩
  go_wp2
  go_ret2
  exact ⟨i, hf, rfl, hd⟩
/-- In an ascending list: behind all earlier strings. -/
theorem binarySearchStrings_asc (A : Option Addr) (c : Nat) (zs : List ByteArray) (v : ByteArray) (w : World) (hA : Strs w A zs) (hn : zs.length * 16 ≤ 140737488351232) (ha : ascS zs = true) :
    Calls Try.prog 47 #[.slice A zs.length c, .string v] w fun e w' => e = .returned (.tuple #[.int .i64 (lessNS zs v), .bool (hasS zs v)]) ∧ Draws w w' :=
  (binarySearchStrings_calls A c zs v w hA hn).mono fun e w' ⟨i, hf, he, hd⟩ => ⟨he.trans (ret_ib (by rw [found_lessNS ha hf]) (found_hasS ha hf).symm), hd⟩
end Go.Proofs.Ythioaialkilbdaa
