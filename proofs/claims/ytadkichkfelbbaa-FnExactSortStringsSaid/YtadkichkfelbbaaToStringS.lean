/- Contract of toStringS: a copy in new memory. -/
import Derived.Test.YtadkichkfelbbaaInfo
namespace Go.Proofs.Ytadkichkfelbbaa
open Go.RowKit

set_option maxHeartbeats 400000 in
theorem toStringS_calls (A : Option Addr) (c : Nat) (zs : List ByteArray) (w : World) (hA : Strs w A zs) (hn : zs.length * 16 ≤ 140737488351232) :
    Calls Try.prog 10 #[.slice A zs.length c] w fun e w' => e = .returned (.slice (some ⟨w.heap.size, 0, none⟩) zs.length zs.length) ∧ Blk w' w.heap.size 9 (strCells zs) ∧ Below w.heap.size w w' := by
  have hmk := run_make_row' (P := Try.prog) 22 9 (.string ByteArray.empty) 16 Try.underlying22 infoStr rfl .i64 .i64 zs.length (by omega) (by omega)
  go_enter Try.func10, Try.ntmps10
  go_wp2
  clear hmk
  go_loopw [4] (fun i wr => ∃ k : Nat, k ≤ zs.length ∧ i = .int .i64 k ∧ Made wr w.heap.size 9 zs.length k (fun i => .string (gs zs i)) ∧ Below w.heap.size w wr) (fun i _ => zs.length - (intOf i).toNat)
  case atStart => exact ⟨0, Nat.zero_le _, rfl, Made.start _ _ _ _ _, (Below.refl _ _).alloc (Nat.le_refl _) _⟩
  case round =>
    obtain ⟨k, hk, rfl, hm, hb⟩ := hrel
    by_cases hlt : k < zs.length
    · obtain ⟨b, off, rfl, hbl, hc⟩ := hA.below (hb.mono (Nat.le_refl _)) (by omega)
      have hck := hc k hlt
      obtain ⟨u, hu⟩ := hm.cell hlt
      have hf := hm.frozen
      have hs := hm.step hlt
      have HM := Lib.hid hs
      clear hc hs hA
      go_wp2
      go_roundw
      case rel => exact ⟨k + 1, by omega, by go_num, HM.out, hb.setCell (Nat.le_refl _) _⟩
      case measure => simp [intOf]; omega
    · obtain rfl : k = zs.length := by omega
      obtain ⟨cs, h1, h2, h3⟩ := hm
      go_wp2
      go_ret
      exact ⟨rfl, by rw [← strCells_of h2 h3]; exact h1, hb⟩

end Go.Proofs.Ytadkichkfelbbaa
