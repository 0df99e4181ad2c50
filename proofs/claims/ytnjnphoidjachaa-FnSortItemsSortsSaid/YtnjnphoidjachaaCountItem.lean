/- Contracts of the laws' countItem, and of sameElements at two lists of the same items. -/
import Derived.Test.YtnjnphoidjachaaInfoItem
import Derived.Test.YtnjnphoidjachaaAppendItems
namespace Go.Proofs.Ytnjnphoidjachaa
open Go.RowKit

/-- How often an item is in a list. -/
def cntP (zs : List (Int × Int)) (v : Int × Int) : Nat := zs.count v
theorem cntP_step {zs : List (Int × Int)} {v : Int × Int} {k : Nat} (h : k < zs.length) : cntP (zs.take (k + 1)) v = cntP (zs.take k) v + if (gk zs k = v.1 ∧ gt zs k = v.2) then 1 else 0 := by
  unfold cntP
  rw [take_pair h, List.count_append]
  obtain ⟨a, b⟩ := v
  by_cases e : (gk zs k = a ∧ gt zs k = b)
  · rw [if_pos e, e.1, e.2]; simp
  · rw [if_neg e]
    have : ¬ ((gk zs k, gt zs k) = (a, b)) := fun h => e (by simpa using h)
    simp [List.count_cons]
    exact fun h1 h2 => e ⟨h1, h2⟩

set_option maxHeartbeats 800000 in
theorem countItem_calls (A : Option Addr) (c : Nat) (zs : List (Int × Int)) (x y : Int) (w : World) (hA : Items w A zs) (hn : zs.length * 16 ≤ 140737488351232) :
    Calls Try.prog 38 #[.slice A zs.length c, .agg #[.int .i64 x, .int .i64 y]] w fun e w' => e = .returned (.int .i64 (cntP zs (x, y))) ∧ Below w.heap.size w w' := by
  go_enter Try.func38, Try.ntmps38
  go_wp2
  go_loopw [5, 10] (fun n i wr => ∃ k m : Nat, k ≤ zs.length ∧ m ≤ k ∧ n = .int .i64 m ∧ i = .int .i64 k ∧ m = cntP (zs.take k) (x, y) ∧ Blk wr w.heap.size 41 #[.int .i64 x, .int .i64 y] ∧ Below w.heap.size w wr) (fun _ i _ => zs.length - (intOf i).toNat)
  case atStart => exact ⟨0, 0, Nat.zero_le _, Nat.zero_le _, rfl, rfl, rfl, Blk.new _ _ _, (Below.refl _ _).alloc (Nat.le_refl _) _⟩
  case round =>
    obtain ⟨k, m, hk, hmk, rfl, rfl, hm, hB, hb⟩ := hrel
    by_cases hlt : k < zs.length
    · obtain ⟨bk, off, rfl, hbl, hc⟩ := hA.below hb (by omega)
      obtain ⟨hck, hck'⟩ := hc k hlt
      have hB2 := hB.alloc (.cells #[.int .i64 (gk zs k), .int .i64 (gt zs k)] 41)
      obtain ⟨hx1, hx2⟩ := hB2.pair
      have hb2 := hb.alloc hb.size (.cells #[.int .i64 (gk zs k), .int .i64 (gt zs k)] 41)
      have HM := Lib.hid (show cntP (zs.take (k + 1)) (x, y) = m + if (gk zs k = x ∧ gt zs k = y) then 1 else 0 by rw [hm]; exact cntP_step hlt)
      clear hc hA hm hB
      by_cases he : gk zs k = x ∧ gt zs k = y
      · have hq1 : (gk zs k == x) = true := by simp [he.1]
        have hq2 : (gt zs k == y) = true := by simp [he.2]
        have HM' := Lib.hid (show m + 1 = cntP (zs.take (k + 1)) (x, y) by rw [HM.out, if_pos he])
        clear HM he
        go_wp2
        go_roundw
        case rel => exact ⟨k + 1, m + 1, by omega, by omega, by go_num, by go_num, HM'.out, hB2, hb2⟩
        case measure => simp [intOf]; omega
      · have HM' := Lib.hid (show m = cntP (zs.take (k + 1)) (x, y) by rw [HM.out, if_neg he]; rfl)
        clear HM
        by_cases h1 : gk zs k = x
        · have hq1 : (gk zs k == x) = true := by simp [h1]
          have hq2 : (gt zs k == y) = false := by simp; exact fun h => he ⟨h1, h⟩
          clear he h1
          go_wp2
          go_roundw
          case rel => exact ⟨k + 1, m, by omega, by omega, rfl, by go_num, HM'.out, hB2, hb2⟩
          case measure => simp [intOf]; omega
        · have hq1 : (gk zs k == x) = false := by simp [h1]
          clear he h1
          go_wp2
          go_roundw
          case rel => exact ⟨k + 1, m, by omega, by omega, rfl, by go_num, HM'.out, hB2, hb2⟩
          case measure => simp [intOf]; omega
    · have HM := Lib.hid (show m = cntP zs (x, y) by rw [hm, List.take_of_length_le (by omega)])
      clear hm
      go_wp2
      go_ret
      exact ⟨ret_int (by rw [HM.out]), hb⟩
end Go.Proofs.Ytnjnphoidjachaa
