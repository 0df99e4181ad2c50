/- Contract of 'earlier' (the reference's): is a string before another one. -/
import Derived.Test.YtadkichkfelbbaaInfo
import Derived.Test.YtadkichkfelbbaaEarlierPlain
namespace Go.Proofs.Ytadkichkfelbbaa
open Go.RowKit

set_option maxHeartbeats 400000 in
theorem specEarlier_calls (a b : ByteArray) (w : World) (ha : a.size ≤ maxLen) (_hb : b.size ≤ maxLen) :
    Calls Try.prog 27 #[.string a, .string b] w fun e w' => e = .returned (.bool (sl a b)) ∧ Draws w w' := by
  unfold maxLen at ha
  go_enter Try.func27, Try.ntmps27
  go_wp2
  go_loopw [5] (fun i wr => ∃ k : Nat, k ≤ a.size ∧ k ≤ b.size ∧ i = .int .i64 k ∧ a.data.toList.take k = b.data.toList.take k ∧ Draws w wr) (fun i _ => a.size - (intOf i).toNat)
  case atStart => exact ⟨0, Nat.zero_le _, Nat.zero_le _, rfl, rfl, Draws.refl _⟩
  case round =>
    obtain ⟨k, hka, hkb, rfl, heq, hd⟩ := hrel
    have HE := Lib.hid heq
    clear heq
    by_cases hla : k < a.size
    · by_cases hlb : k < b.size
      · by_cases he : a[k] = b[k]
        · have HN := Lib.hid (take_next hla hlb HE.out he)
          have hne : ((a[k].toNat : Int) != (b[k].toNat : Int)) = false := by simp [he]
          clear he
          go_wp2
          go_quiet (fail)
          go_wp2
          go_roundw
          case rel => exact ⟨k + 1, by omega, by omega, by go_num, HN.out, hd.drewN _⟩
          case measure => simp [intOf]; omega
        · have HN := Lib.hid (sl_at hla hlb HE.out he)
          have hne : ((a[k].toNat : Int) != (b[k].toNat : Int)) = true := by
            rw [bne_iff_ne]
            intro h
            exact he (UInt8.toNat_inj.1 (by omega))
          clear he
          by_cases hl : (a[k].toNat : Int) < (b[k].toNat : Int)
          · have HL := Lib.hid hl
            go_wp2
            go_quiet (fail)
            go_wp2
            go_quiet (fail)
            go_wp2
            go_ret
            refine ⟨ret_bool ?_, (hd.drewN _).drewN _⟩
            rw [HN.out]
            have := HL.out
            simp [UInt8.lt_iff_toNat_lt]
            omega
          · have HL := Lib.hid (Int.not_lt.1 hl)
            go_wp2
            go_quiet (fail)
            go_wp2
            go_quiet (fail)
            go_wp2
            go_ret
            refine ⟨ret_bool ?_, (hd.drewN _).drewN _⟩
            rw [HN.out]
            have := HL.out
            simp [UInt8.lt_iff_toNat_lt]
      · have HF := Lib.hid (sl_end (a := a) (b := b) (k := k) (by omega) (by omega) HE.out (by omega))
        have hsz : b.size ≤ a.size := by omega
        have HZ := Lib.hid hsz
        go_wp2
        go_ret
        refine ⟨ret_bool ?_, hd⟩
        first | exact HF.out.symm | exact (HF.out.trans (decide_eq_false (by have := HZ.out; omega))).symm
    · have HF := Lib.hid (sl_end (a := a) (b := b) (k := k) (by omega) (by omega) HE.out (by omega))
      go_wp2
      go_ret
      exact ⟨ret_bool HF.out.symm, hd⟩
theorem specEarlier_t (a b : ByteArray) (w : World) (ha : a.size ≤ maxLen) (hb : b.size ≤ maxLen) (h : sl a b = true) : Calls Try.prog 27 #[.string a, .string b] w fun e w' => e = .returned (.bool true) ∧ Draws w w' :=
  (specEarlier_calls a b w ha hb).mono fun _ _ ⟨he, hd⟩ => ⟨he.trans (ret_bool h), hd⟩
theorem specEarlier_f (a b : ByteArray) (w : World) (ha : a.size ≤ maxLen) (hb : b.size ≤ maxLen) (h : sl a b = false) : Calls Try.prog 27 #[.string a, .string b] w fun e w' => e = .returned (.bool false) ∧ Draws w w' :=
  (specEarlier_calls a b w ha hb).mono fun _ _ ⟨he, hd⟩ => ⟨he.trans (ret_bool h), hd⟩
end Go.Proofs.Ytadkichkfelbbaa
