/- Contract of the laws' countInt: how often a number is in a list. -/
import Derived.Test.YtfapllhjccpfpaaInfo
namespace Go.Proofs.Ytfapllhjccpfpaa
open Go.RowKit

/-- How often a number is in a list. -/
def cntI (zs : List Int) (v : Int) : Nat := zs.count v
theorem cntI_step {zs : List Int} {v : Int} {k : Nat} (h : k < zs.length) : cntI (zs.take (k + 1)) v = cntI (zs.take k) v + if gi zs k = v then 1 else 0 := by
  unfold cntI
  rw [take_gi h, List.count_append]
  by_cases e : gi zs k = v <;> simp [e]
theorem cntI_le (zs : List Int) (v : Int) (k : Nat) : cntI (zs.take k) v ≤ k := by
  unfold cntI
  exact Nat.le_trans List.count_le_length (by simp; omega)

set_option maxHeartbeats 400000 in
theorem countInt_calls (A : Option Addr) (c : Nat) (zs : List Int) (v : Int) (w : World) (hA : Ints w A zs) (hn : zs.length * 8 ≤ 140737488351232) :
    Calls Try.prog 15 #[.slice A zs.length c, .int .i64 v] w fun e w' => e = .returned (.int .i64 (cntI zs v)) ∧ Draws w w' := by
  go_enter Try.func15, Try.ntmps15
  go_wp2
  go_loopw [5, 10] (fun n i wr => ∃ k m : Nat, k ≤ zs.length ∧ m ≤ k ∧ n = .int .i64 m ∧ i = .int .i64 k ∧ m = cntI (zs.take k) v ∧ Draws w wr) (fun _ i _ => zs.length - (intOf i).toNat)
  case atStart => exact ⟨0, 0, Nat.zero_le _, Nat.zero_le _, rfl, rfl, rfl, Draws.refl _⟩
  case round =>
    obtain ⟨k, m, hk, hmk, rfl, rfl, hm, hd⟩ := hrel
    by_cases hlt : k < zs.length
    · obtain ⟨bk, off, rfl, hbl, hc⟩ := hA.below hd.below (by omega)
      have hck := hc k hlt
      have HM := Lib.hid (show cntI (zs.take (k + 1)) v = m + if gi zs k = v then 1 else 0 by rw [hm]; exact cntI_step hlt)
      clear hc hA hm
      by_cases he : gi zs k = v
      · have hq : (gi zs k == v) = true := by simp [he]
        have HM' := Lib.hid (show m + 1 = cntI (zs.take (k + 1)) v by rw [HM.out, if_pos he])
        clear HM he
        go_wp2
        go_roundw
        case rel => exact ⟨k + 1, m + 1, by omega, by omega, by go_num, by go_num, HM'.out, hd⟩
        case measure => simp [intOf]; omega
      · have hq : (gi zs k == v) = false := by simp [he]
        have HM' := Lib.hid (show m = cntI (zs.take (k + 1)) v by rw [HM.out, if_neg he]; rfl)
        clear HM he
        go_wp2
        go_roundw
        case rel => exact ⟨k + 1, m, by omega, by omega, rfl, by go_num, HM'.out, hd⟩
        case measure => simp [intOf]; omega
    · have HM := Lib.hid (show m = cntI zs v by rw [hm, List.take_of_length_le (by omega)])
      clear hm
      go_wp2
      go_ret
      exact ⟨ret_int (by rw [HM.out]), hd⟩
end Go.Proofs.Ytfapllhjccpfpaa
