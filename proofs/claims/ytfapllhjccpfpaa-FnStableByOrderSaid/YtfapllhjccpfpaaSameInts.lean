/- Contract of sameInts: are two lists of numbers equal. -/
import Derived.Test.YtfapllhjccpfpaaInfo
namespace Go.Proofs.Ytfapllhjccpfpaa
open Go.RowKit

set_option maxHeartbeats 400000 in
theorem sameInts_calls (A B : Option Addr) (c d : Nat) (xs ys : List Int) (w : World) (hA : Ints w A xs) (hB : Ints w B ys) (hn : xs.length * 8 ≤ 140737488351232) :
    Calls Try.prog 11 #[.slice A xs.length c, .slice B ys.length d] w fun e w' => e = .returned (.bool (decide (xs = ys))) ∧ Draws w w' := by
  by_cases hl : xs.length = ys.length
  · have hne : ((xs.length : Int) != (ys.length : Int)) = false := by simp [hl]
    have hy : ys.length * 8 ≤ 140737488351232 := by omega
    have HL := Lib.hid hl
    clear hl
    go_enter Try.func11, Try.ntmps11
    go_wp2
    clear hne
    go_loopw [13] (fun i wr => ∃ k : Nat, k ≤ xs.length ∧ i = .int .i64 k ∧ (∀ j, j < k → gi xs j = gi ys j) ∧ Draws w wr) (fun i _ => xs.length - (intOf i).toNat)
    case atStart => exact ⟨0, Nat.zero_le _, rfl, fun j hj => absurd hj (by omega), Draws.refl _⟩
    case round =>
      obtain ⟨k, hk, rfl, heq, hd⟩ := hrel
      have HE := Lib.hid heq
      clear heq
      by_cases hlt : k < xs.length
      · obtain ⟨b, off, rfl, hbl, hc⟩ := hA.below hd.below (by omega)
        have hlt' : k < ys.length := by have := HL.out; omega
        obtain ⟨b', off', rfl, hbl', hc'⟩ := hB.below hd.below (by omega)
        have hck := hc k hlt
        have hck' := hc' k hlt'
        clear hc hc' hA hB
        by_cases he : gi xs k = gi ys k
        · have hb1 : (gi xs k != gi ys k) = false := by simp [he]
          have HX := Lib.hid he
          clear he
          go_wp2
          go_quiet (fail)
          go_wp2
          go_roundw
          case rel => exact ⟨k + 1, by omega, by go_num, fun j hj => by
            rcases Nat.lt_or_ge j k with h | h
            · exact HE.out j h
            · obtain rfl : j = k := by omega
              exact HX.out, hd.drewN _⟩
          case measure => simp [intOf]; omega
        · have hb1 : (gi xs k != gi ys k) = true := by simp [he]
          have HX : Hid (decide (xs = ys) = false) := by
            refine decide_eq_false ?_
            intro h
            exact he (by rw [h])
          clear he
          go_wp2
          go_quiet (fail)
          go_wp2
          go_ret
          exact ⟨ret_bool HX.out.symm, hd.drewN _⟩
      · have hfin : Hid (decide (xs = ys) = true) := decide_eq_true (eq_of_gi HL.out fun j hj => HE.out j (by omega))
        go_wp2
        go_ret
        exact ⟨ret_bool hfin.out.symm, hd⟩
  · have hne : ((xs.length : Int) != (ys.length : Int)) = true := by simp; omega
    have HX : Hid (decide (xs = ys) = false) := by
      refine decide_eq_false ?_
      intro h
      exact hl (by rw [h])
    clear hl
    go_enter Try.func11, Try.ntmps11
    go_wp2
    go_ret
    exact ⟨ret_bool HX.out.symm, Draws.refl _⟩
end Go.Proofs.Ytfapllhjccpfpaa
