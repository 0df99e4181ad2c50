/- Contract of eqStringS: are two lists of strings equal. -/
import Derived.Test.YtadkichkfelbbaaInfo
import Derived.Test.YtadkichkfelbbaaStrPlain
namespace Go.Proofs.Ytadkichkfelbbaa
open Go.RowKit

set_option maxHeartbeats 400000 in
theorem eqStringS_calls (A B : Option Addr) (c d : Nat) (xs ys : List ByteArray) (w : World) (hA : Strs w A xs) (hB : Strs w B ys) (hn : xs.length * 16 ≤ 140737488351232) :
    Calls Try.prog 12 #[.slice A xs.length c, .slice B ys.length d] w fun e w' => e = .returned (.bool (decide (xs = ys))) ∧ Draws w w' := by
  by_cases hl : xs.length = ys.length
  · have hne : ((xs.length : Int) != (ys.length : Int)) = false := by simp [hl]
    have hy : ys.length * 16 ≤ 140737488351232 := by omega
    have HL := Lib.hid hl
    clear hl
    go_enter Try.func12, Try.ntmps12
    go_wp2
    clear hne
    go_loopw [5] (fun i wr => ∃ k : Nat, k ≤ xs.length ∧ i = .int .i64 k ∧ (∀ j, j < k → gs xs j = gs ys j) ∧ Draws w wr) (fun i _ => xs.length - (intOf i).toNat)
    case atStart => exact ⟨0, Nat.zero_le _, rfl, fun j hj => absurd hj (by omega), Draws.refl _⟩
    case round =>
      obtain ⟨k, hk, rfl, heq, hd⟩ := hrel
      have HE := Lib.hid heq
      clear heq
      by_cases hlt : k < xs.length
      · obtain ⟨b, off, rfl, hbl, hc⟩ := hA.below hd.below (by omega)
        have hlt' : k < ys.length := by have := HL.out; omega
        obtain ⟨b', off', rfl, hbl', hc'⟩ := hB.below hd.below (by omega)
        have hck := hc k hlt
        have hck' := hc' k hlt'
        clear hc hc' hA hB
        by_cases he : gs xs k = gs ys k
        · have hb1 : ((gs xs k).toList == (gs ys k).toList) = true := by rw [str_eq_iff]; simp [he]
          have HX := Lib.hid he
          clear he
          go_wp2
          go_quiet (fail)
          go_wp2
          go_roundw
          case rel => exact ⟨k + 1, by omega, by go_num, fun j hj => by
            rcases Nat.lt_or_ge j k with h | h
            · exact HE.out j h
            · obtain rfl : j = k := by omega
              exact HX.out, hd.drewN _⟩
          case measure => simp [intOf]; omega
        · have hb1 : ((gs xs k).toList == (gs ys k).toList) = false := by rw [str_eq_iff]; simp [he]
          have HX : Hid (decide (xs = ys) = false) := by
            refine decide_eq_false ?_
            intro h
            exact he (by rw [h])
          clear he
          go_wp2
          go_quiet (fail)
          go_wp2
          go_ret
          exact ⟨ret_bool HX.out.symm, hd.drewN _⟩
      · have hfin : Hid (decide (xs = ys) = true) := decide_eq_true (eq_of_gs HL.out fun j hj => HE.out j (by omega))
        go_wp2
        go_ret
        exact ⟨ret_bool hfin.out.symm, hd⟩
  · have hne : ((xs.length : Int) != (ys.length : Int)) = true := by simp; omega
    have HX : Hid (decide (xs = ys) = false) := by
      refine decide_eq_false ?_
      intro h
      exact hl (by rw [h])
    clear hl
    go_enter Try.func12, Try.ntmps12
    go_wp2
    go_ret
    exact ⟨ret_bool HX.out.symm, Draws.refl _⟩
end Go.Proofs.Ytadkichkfelbbaa
