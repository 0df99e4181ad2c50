/- Contract of the reference's BinarySearchInts: it counts. -/
import Derived.Test.YthioaialkilbdaaInfo
namespace Go.Proofs.Ythioaialkilbdaa
open Go.RowKit

set_option maxHeartbeats 400000 in
theorem specBinarySearchInts_calls (A : Option Addr) (c : Nat) (zs : List Int) (v : Int) (w : World) (hA : Ints w A zs) (hn : zs.length * 8 ≤ 140737488351232) :
    Calls Try.prog 45 #[.slice A zs.length c, .int .i64 v] w fun e w' => e = .returned (.tuple #[.int .i64 (lessN zs v), .bool (hasB zs v)]) ∧ Draws w w' := by
  go_enter Try.func45, Try.ntmps45
  go_wp2
  go_loopw [6, 7, 12] (fun n f i wr => ∃ (k m : Nat) (b : Bool), k ≤ zs.length ∧ m ≤ k ∧ n = .int .i64 m ∧ f = .bool b ∧ i = .int .i64 k ∧ m = lessN (zs.take k) v ∧ b = hasB (zs.take k) v ∧ Draws w wr) (fun _ _ i _ => zs.length - (intOf i).toNat)
  case atStart => exact ⟨0, 0, false, Nat.zero_le _, Nat.zero_le _, rfl, rfl, rfl, rfl, rfl, Draws.refl _⟩
  case round =>
    obtain ⟨k, m, b, hk, hmk, rfl, rfl, rfl, hm, hb, hd⟩ := hrel
    by_cases hlt : k < zs.length
    · obtain ⟨bk, off, rfl, hbl, hc⟩ := hA.below hd.below (by omega)
      have hck := hc k hlt
      have HM := Lib.hid (show lessN (zs.take (k + 1)) v = m + if gi zs k < v then 1 else 0 by rw [hm]; exact lessN_step hlt)
      have HB := Lib.hid (show hasB (zs.take (k + 1)) v = (b || (gi zs k == v)) by rw [hb]; exact hasB_step hlt)
      clear hc hA hm hb
      by_cases hl : gi zs k < v
      · have hq : (gi zs k == v) = false := by simp; omega
        have HM' := Lib.hid (show m + 1 = lessN (zs.take (k + 1)) v by rw [HM.out, if_pos hl])
        have HB' := Lib.hid (show b = hasB (zs.take (k + 1)) v by rw [HB.out, hq]; simp)
        clear HM HB
        cases b
        all_goals
          go_wp2
          go_roundw
          case rel => exact ⟨k + 1, m + 1, _, by omega, by omega, by go_num, rfl, by go_num, HM'.out, HB'.out, hd⟩
          case measure => simp [intOf]; omega
      · have HM' := Lib.hid (show m = lessN (zs.take (k + 1)) v by rw [HM.out, if_neg hl]; rfl)
        by_cases he : gi zs k = v
        · have hq : (gi zs k == v) = true := by simp [he]
          have HB' := Lib.hid (show true = hasB (zs.take (k + 1)) v by rw [HB.out, hq]; simp)
          clear HM HB he
          cases b
          all_goals
            go_wp2
            go_roundw
            case rel => exact ⟨k + 1, m, true, by omega, by omega, rfl, rfl, by go_num, HM'.out, HB'.out, hd⟩
            case measure => simp [intOf]; omega
        · have hq : (gi zs k == v) = false := by simp [he]
          have HB' := Lib.hid (show b = hasB (zs.take (k + 1)) v by rw [HB.out, hq]; simp)
          clear HM HB he
          cases b
          all_goals
            go_wp2
            go_roundw
            case rel => exact ⟨k + 1, m, _, by omega, by omega, rfl, rfl, by go_num, HM'.out, HB'.out, hd⟩
            case measure => simp [intOf]; omega
    · have HM := Lib.hid (show m = lessN zs v by rw [hm, List.take_of_length_le (by omega)])
      have HB := Lib.hid (show b = hasB zs v by rw [hb, List.take_of_length_le (by omega)])
      clear hm hb
      go_wp2
      go_ret2
      exact ⟨ret_ib (by rw [HM.out]) HB.out, hd⟩
end Go.Proofs.Ythioaialkilbdaa
