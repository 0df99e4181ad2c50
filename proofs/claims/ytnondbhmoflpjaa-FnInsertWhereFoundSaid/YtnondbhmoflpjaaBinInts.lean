/- Contracts of slices.BinarySearch at int, of BinarySearchInts and of the reference's. -/
import Derived.Test.YtnondbhmoflpjaaLessInt
namespace Go.Proofs.Ytnondbhmoflpjaa
open Go.RowKit

theorem isNaNInt_calls (a : Int) (w : World) : Calls Try.prog 50 #[.int .i64 a] w fun e w' => e = .returned (.bool false) ∧ Draws w w' := by
  have h1 : (a != a) = false := by simp
  go_enter Try.func50, Try.ntmps50
  go_wp2
  go_ret
  exact ⟨rfl, Draws.refl _⟩

set_option maxHeartbeats 800000 in
theorem binarySearchInt_calls (A : Option Addr) (c : Nat) (zs : List Int) (v : Int) (w : World) (hA : Ints w A zs) (hn : zs.length * 8 ≤ 140737488351232) :
    Calls Try.prog 44 #[.slice A zs.length c, .int .i64 v] w (BsInts zs v w) := by
  go_enter Try.func44, Try.ntmps44
  go_wp2
  go_loopw [7, 8] (fun a b wr => ∃ i j : Nat, i ≤ j ∧ j ≤ zs.length ∧ a = .int .i64 i ∧ b = .int .i64 j ∧ (∀ k, k + 1 = i → gi zs k < v) ∧ (j < zs.length → v ≤ gi zs j) ∧ Draws w wr) (fun a b _ => ((intOf b) - (intOf a)).toNat)
  case atStart => exact ⟨0, zs.length, Nat.zero_le _, Nat.le_refl _, rfl, rfl, fun k hk => absurd hk (by omega), fun h => absurd h (by omega), Draws.refl _⟩
  case round =>
    obtain ⟨i, j, hij, hj, rfl, rfl, h1, h2, hd⟩ := hrel
    have H1 := Lib.hid h1
    have H2 := Lib.hid h2
    clear h1 h2
    by_cases hlt : i < j
    · obtain ⟨b, off, rfl, hbl, hc⟩ := hA.below hd.below (by omega)
      have hck := hc ((i + j) / 2) (by omega)
      have hx0 : (0 : Int) ≤ ((i : Int) + (j : Int)) / 2 := by omega
      have hx1 : ((i : Int) + (j : Int)) / 2 < (zs.length : Int) := by omega
      have hx2 := half_toNat i j
      clear hc hA
      by_cases he : gi zs ((i + j) / 2) < v
      · have HE := Lib.hid he
        clear he
        go_wp2_with (go_at_call 49; refine (less_int_t _ _ _ HE.out).mono ?_; rintro e w' ⟨rfl, hd'⟩)
        go_roundw
        case rel => exact ⟨(i + j) / 2 + 1, j, by omega, hj, by go_num, rfl, fun k hk => by
          obtain rfl : k = (i + j) / 2 := by omega
          exact HE.out, H2.out, hd.trans hd'⟩
        case measure => simp [intOf]; omega
      · have HE := Lib.hid (Int.not_lt.1 he)
        clear he
        go_wp2_with (go_at_call 49; refine (less_int_f _ _ _ HE.out).mono ?_; rintro e w' ⟨rfl, hd'⟩)
        go_roundw
        case rel => exact ⟨i, (i + j) / 2, by omega, by omega, rfl, by go_num, H1.out, fun _ => HE.out, hd.trans hd'⟩
        case measure => simp [intOf]; omega
    · obtain rfl : i = j := by omega
      have HF : Hid (Found zs.length (fun j => gi zs j < v) i) := ⟨hj, H1.out, fun h => Int.not_lt.2 (H2.out h)⟩
      by_cases hi : i < zs.length
      · obtain ⟨b, off, rfl, hbl, hc⟩ := hA.below hd.below (by omega)
        have hck := hc i hi
        clear hc hA
        by_cases he : gi zs i = v
        · have hq : (gi zs i == v) = true := by simp [he]
          have HQ := Lib.hid hq
          clear he
          go_wp2_with (go_at_call 50; refine (isNaNInt_calls _ _).mono ?_; rintro e w' ⟨rfl, hd'⟩)
          go_ret2
          exact ⟨i, HF.out, ret_ib rfl (by rw [HQ.out]; simp [hi]), hd⟩
        · have hq : (gi zs i == v) = false := by simp [he]
          have HQ := Lib.hid hq
          clear he
          go_wp2_with (go_at_call 50; refine (isNaNInt_calls _ _).mono ?_; rintro e w' ⟨rfl, hd'⟩)
          go_ret2
          exact ⟨i, HF.out, ret_ib rfl (by rw [HQ.out]; simp), hd.trans hd'⟩
      · go_wp2_with fail
        go_ret2
        exact ⟨i, HF.out, ret_ib rfl (by simp [hi]), hd⟩

theorem binarySearchInts_calls (A : Option Addr) (c : Nat) (zs : List Int) (v : Int) (w : World) (hA : Ints w A zs) (hn : zs.length * 8 ≤ 140737488351232) :
    Calls Try.prog 32 #[.slice A zs.length c, .int .i64 v] w (BsInts zs v w) := by
  go_enter Try.func32, Try.ntmps32
  go_wp2_with fail
  refine (binarySearchInt_calls _ _ zs v _ hA hn).mono ?_
  rintro e w1 ⟨i, hf, rfl, hd⟩
  go_wp2
  go_ret2
  exact ⟨i, hf, rfl, hd⟩
/-- In an ascending list: behind all lesser numbers. -/
theorem binarySearchInts_asc (A : Option Addr) (c : Nat) (zs : List Int) (v : Int) (w : World) (hA : Ints w A zs) (hn : zs.length * 8 ≤ 140737488351232) (ha : ascB zs = true) :
    Calls Try.prog 32 #[.slice A zs.length c, .int .i64 v] w fun e w' => e = .returned (.tuple #[.int .i64 (lessN zs v), .bool (hasB zs v)]) ∧ Draws w w' :=
  (binarySearchInts_calls A c zs v w hA hn).mono fun e w' ⟨i, hf, he, hd⟩ => ⟨he.trans (ret_ib (by rw [found_lessN ha hf]) (found_hasB ha hf).symm), hd⟩
end Go.Proofs.Ytnondbhmoflpjaa
