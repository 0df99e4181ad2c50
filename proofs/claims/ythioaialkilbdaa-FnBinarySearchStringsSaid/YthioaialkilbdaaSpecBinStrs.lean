/- Contract of the reference's BinarySearchStrings: it counts. -/
import Derived.Test.YthioaialkilbdaaSpecEarlier
import Derived.Test.YthioaialkilbdaaBinStrPlain
namespace Go.Proofs.Ythioaialkilbdaa
open Go.RowKit

set_option maxHeartbeats 400000 in
theorem specBinarySearchStrings_calls (A : Option Addr) (c : Nat) (zs : List ByteArray) (v : ByteArray) (w : World) (hA : Strs w A zs) (hn : zs.length * 16 ≤ 140737488351232) (hmx : ∀ s ∈ zs, s.size ≤ maxLen) (hv : v.size ≤ maxLen) :
    Calls Try.prog 48 #[.slice A zs.length c, .string v] w fun e w' => e = .returned (.tuple #[.int .i64 (lessNS zs v), .bool (hasS zs v)]) ∧ Draws w w' := by
  have HMX := Lib.hid hmx
  have HV := Lib.hid hv
  clear hmx hv
  go_enter Try.func48, Try.ntmps48
  go_wp2
  go_loopw [6, 7, 12] (fun n f i wr => ∃ (k m : Nat) (b : Bool), k ≤ zs.length ∧ m ≤ k ∧ n = .int .i64 m ∧ f = .bool b ∧ i = .int .i64 k ∧ m = lessNS (zs.take k) v ∧ b = hasS (zs.take k) v ∧ Draws w wr) (fun _ _ i _ => zs.length - (intOf i).toNat)
  case atStart => exact ⟨0, 0, false, Nat.zero_le _, Nat.zero_le _, rfl, rfl, rfl, rfl, rfl, Draws.refl _⟩
  case round =>
    obtain ⟨k, m, b, hk, hmk, rfl, rfl, rfl, hm, hb, hd⟩ := hrel
    by_cases hlt : k < zs.length
    · obtain ⟨bk, off, rfl, hbl, hc⟩ := hA.below hd.below (by omega)
      have hck := hc k hlt
      have HM := Lib.hid (show lessNS (zs.take (k + 1)) v = m + if sl (gs zs k) v = true then 1 else 0 by rw [hm]; exact lessNS_step hlt)
      have HB := Lib.hid (show hasS (zs.take (k + 1)) v = (b || decide (gs zs k = v)) by rw [hb]; exact hasS_step hlt)
      clear hc hA hm hb
      by_cases hl : sl (gs zs k) v = true
      · have hne : ¬ gs zs k = v := fun h => by rw [h, sl_irrefl] at hl; cases hl
        have hq0 : decide (gs zs k = v) = false := decide_eq_false hne
        have hq : ((gs zs k).toList == v.toList) = false := by rw [str_eq_iff]; exact hq0
        have HL := Lib.hid hl
        have HM' := Lib.hid (show m + 1 = lessNS (zs.take (k + 1)) v by rw [HM.out, if_pos hl])
        have HB' := Lib.hid (show b = hasS (zs.take (k + 1)) v by rw [HB.out, hq0]; simp)
        clear HM HB hq0 hne hl
        cases b
        all_goals
          go_wp2_with (go_at_call 50; refine (specEarlier_t _ _ _ (HMX.out _ (gs_mem hlt)) HV.out HL.out).mono ?_; rintro e w' ⟨rfl, hd'⟩)
          go_roundw
          case rel => exact ⟨k + 1, m + 1, _, by omega, by omega, by go_num, rfl, by go_num, HM'.out, HB'.out, hd.trans hd'⟩
          case measure => simp [intOf]; omega
      · have HL := Lib.hid (Bool.eq_false_iff.2 hl)
        have HM' := Lib.hid (show m = lessNS (zs.take (k + 1)) v by rw [HM.out, if_neg hl]; rfl)
        by_cases he : gs zs k = v
        · have hq0 : decide (gs zs k = v) = true := decide_eq_true he
          have hq : ((gs zs k).toList == v.toList) = true := by rw [str_eq_iff]; exact hq0
          have HB' := Lib.hid (show true = hasS (zs.take (k + 1)) v by rw [HB.out, hq0]; simp)
          clear HM HB he hq0
          cases b
          all_goals
            go_wp2_with (go_at_call 50; refine (specEarlier_f _ _ _ (HMX.out _ (gs_mem hlt)) HV.out HL.out).mono ?_; rintro e w' ⟨rfl, hd'⟩)
            go_roundw
            case rel => exact ⟨k + 1, m, true, by omega, by omega, rfl, rfl, by go_num, HM'.out, HB'.out, hd.trans hd'⟩
            case measure => simp [intOf]; omega
        · have hq0 : decide (gs zs k = v) = false := decide_eq_false he
          have hq : ((gs zs k).toList == v.toList) = false := by rw [str_eq_iff]; exact hq0
          have HB' := Lib.hid (show b = hasS (zs.take (k + 1)) v by rw [HB.out, hq0]; simp)
          clear HM HB he hq0
          cases b
          all_goals
            go_wp2_with (go_at_call 50; refine (specEarlier_f _ _ _ (HMX.out _ (gs_mem hlt)) HV.out HL.out).mono ?_; rintro e w' ⟨rfl, hd'⟩)
            go_roundw
            case rel => exact ⟨k + 1, m, _, by omega, by omega, rfl, rfl, by go_num, HM'.out, HB'.out, hd.trans hd'⟩
            case measure => simp [intOf]; omega
    · have HM := Lib.hid (show m = lessNS zs v by rw [hm, List.take_of_length_le (by omega)])
      have HB := Lib.hid (show b = hasS zs v by rw [hb, List.take_of_length_le (by omega)])
      clear hm hb
      go_wp2
      go_ret2
      exact ⟨ret_ib (by rw [HM.out]) HB.out, hd⟩
end Go.Proofs.Ythioaialkilbdaa
