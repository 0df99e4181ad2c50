/- Contract of the laws' sameNumbers at two lists of the same numbers. -/
import Derived.Test.YtfapllhjccpfpaaCountInt
namespace Go.Proofs.Ytfapllhjccpfpaa
open Go.RowKit

set_option maxHeartbeats 400000 in
theorem sameNumbers_perm (A B : Option Addr) (c d : Nat) (xs ys : List Int) (w : World) (hA : Ints w A xs) (hB : Ints w B ys) (hn : xs.length * 8 ≤ 140737488351232) (hp : xs.Perm ys) :
    Calls Try.prog 7 #[.slice A xs.length c, .slice B ys.length d] w fun e w' => e = .returned (.bool true) ∧ Draws w w' := by
  have hl := hp.length_eq
  have hne : ((xs.length : Int) != (ys.length : Int)) = false := by simp [hl]
  have hy : ys.length * 8 ≤ 140737488351232 := by omega
  have HC : Hid (∀ v, cntI xs v = cntI ys v) := fun v => hp.count_eq v
  clear hp hl
  go_enter Try.func7, Try.ntmps7
  go_wp2
  clear hne
  go_loopw [14] (fun i wr => ∃ k : Nat, k ≤ xs.length ∧ i = .int .i64 k ∧ Draws w wr) (fun i _ => xs.length - (intOf i).toNat)
  case atStart => exact ⟨0, Nat.zero_le _, rfl, Draws.refl _⟩
  case round =>
    obtain ⟨k, hk, rfl, hdr⟩ := hrel
    by_cases hlt : k < xs.length
    · have hAr := hA.below hdr.below
      obtain ⟨b, off, rfl, hbl, hc⟩ := hAr (by omega)
      have hck := hc k hlt
      clear hc
      go_wp2_with fail
      refine (countInt_calls _ _ xs _ _ hAr hn).mono ?_
      rintro e w1 ⟨rfl, hd1⟩
      go_wp2_with fail
      refine (countInt_calls _ _ ys _ _ (hB.below (hdr.trans hd1).below) hy).mono ?_
      rintro e w2 ⟨rfl, hd2⟩
      have hq : ((cntI xs (gi xs k) : Int) != (cntI ys (gi xs k) : Int)) = false := by rw [HC.out]; simp
      clear hck hAr
      go_wp2
      go_roundw
      case rel => exact ⟨k + 1, by omega, by go_num, (hdr.trans hd1).trans hd2⟩
      case measure => simp [intOf]; omega
    · go_wp2
      go_ret
      exact ⟨rfl, hdr⟩
end Go.Proofs.Ytfapllhjccpfpaa
