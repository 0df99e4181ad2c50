/- Contract of the laws' countText: how often a string is in a list. -/
import Derived.Test.YtadkichkfelbbaaInfo
import Derived.Test.YtadkichkfelbbaaStrPlain
namespace Go.Proofs.Ytadkichkfelbbaa
open Go.RowKit

theorem take_gs {zs : List ByteArray} {k : Nat} (h : k < zs.length) : zs.take (k + 1) = zs.take k ++ [gs zs k] := by
  rw [List.take_succ_eq_append_getElem h, gs_eq h]
/-- How often a string is in a list. -/
def cntS (zs : List ByteArray) (v : ByteArray) : Nat := zs.countP (fun x => decide (x = v))
theorem cntS_step {zs : List ByteArray} {v : ByteArray} {k : Nat} (h : k < zs.length) : cntS (zs.take (k + 1)) v = cntS (zs.take k) v + if gs zs k = v then 1 else 0 := by
  unfold cntS
  rw [take_gs h, List.countP_append]
  by_cases e : gs zs k = v <;> simp [e]
theorem cntS_le (zs : List ByteArray) (v : ByteArray) (k : Nat) : cntS (zs.take k) v ≤ k := by
  unfold cntS
  exact Nat.le_trans List.countP_le_length (by simp; omega)

set_option maxHeartbeats 400000 in
theorem countText_calls (A : Option Addr) (c : Nat) (zs : List ByteArray) (v : ByteArray) (w : World) (hA : Strs w A zs) (hn : zs.length * 16 ≤ 140737488351232) :
    Calls Try.prog 32 #[.slice A zs.length c, .string v] w fun e w' => e = .returned (.int .i64 (cntS zs v)) ∧ Draws w w' := by
  go_enter Try.func32, Try.ntmps32
  go_wp2
  go_loopw [5, 10] (fun n i wr => ∃ k m : Nat, k ≤ zs.length ∧ m ≤ k ∧ n = .int .i64 m ∧ i = .int .i64 k ∧ m = cntS (zs.take k) v ∧ Draws w wr) (fun _ i _ => zs.length - (intOf i).toNat)
  case atStart => exact ⟨0, 0, Nat.zero_le _, Nat.zero_le _, rfl, rfl, rfl, Draws.refl _⟩
  case round =>
    obtain ⟨k, m, hk, hmk, rfl, rfl, hm, hd⟩ := hrel
    by_cases hlt : k < zs.length
    · obtain ⟨bk, off, rfl, hbl, hc⟩ := hA.below hd.below (by omega)
      have hck := hc k hlt
      have HM := Lib.hid (show cntS (zs.take (k + 1)) v = m + if gs zs k = v then 1 else 0 by rw [hm]; exact cntS_step hlt)
      clear hc hA hm
      by_cases he : gs zs k = v
      · have hq : ((gs zs k).toList == v.toList) = true := by rw [str_eq_iff]; simp [he]
        have HM' := Lib.hid (show m + 1 = cntS (zs.take (k + 1)) v by rw [HM.out, if_pos he])
        clear HM he
        go_wp2
        go_roundw
        case rel => exact ⟨k + 1, m + 1, by omega, by omega, by go_num, by go_num, HM'.out, hd⟩
        case measure => simp [intOf]; omega
      · have hq : ((gs zs k).toList == v.toList) = false := by rw [str_eq_iff]; simp [he]
        have HM' := Lib.hid (show m = cntS (zs.take (k + 1)) v by rw [HM.out, if_neg he]; rfl)
        clear HM he
        go_wp2
        go_roundw
        case rel => exact ⟨k + 1, m, by omega, by omega, rfl, by go_num, HM'.out, hd⟩
        case measure => simp [intOf]; omega
    · have HM := Lib.hid (show m = cntS zs v by rw [hm, List.take_of_length_le (by omega)])
      clear hm
      go_wp2
      go_ret
      exact ⟨ret_int (by rw [HM.out]), hd⟩
end Go.Proofs.Ytadkichkfelbbaa
