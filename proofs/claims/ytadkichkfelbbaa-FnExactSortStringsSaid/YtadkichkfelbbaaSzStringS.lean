/- Contract of szStringS: some number; if it is not negative the list is short. -/
import Derived.Test.YtadkichkfelbbaaInfo
import Derived.Test.YtadkichkfelbbaaStrPlain
namespace Go.Proofs.Ytadkichkfelbbaa
open Go.RowKit

/-- Some int n with P n is returned; only draws beside. -/
def SomeInt (P : Int → Prop) (w : World) (e : Ending) (w' : World) : Prop := ∃ n : Int, P n ∧ e = .returned (.int .i64 n) ∧ Draws w w'

set_option maxHeartbeats 400000 in
theorem szStringS_calls (A : Option Addr) (c : Nat) (zs : List ByteArray) (w : World) (hA : Strs w A zs) (hn : zs.length * 16 ≤ 140737488351232) (hm : ∀ s ∈ zs, s.size ≤ maxLen) :
    Calls Try.prog 8 #[.slice A zs.length c, .int .i64 1048576] w (SomeInt (fun n => 0 ≤ n → zs.length ≤ 1048576) w) := by
  have HM := Lib.hid hm
  clear hm
  by_cases hbig : 1048576 < zs.length
  · go_enter Try.func8, Try.ntmps8
    go_wp2
    go_ret
    exact ⟨-1, by omega, rfl, Draws.refl _⟩
  · go_enter Try.func8, Try.ntmps8
    go_wp2
    go_loopw [1, 5] (fun l i wr => ∃ (k : Nat) (left : Int), k ≤ zs.length ∧ 0 ≤ left ∧ left ≤ 1048576 ∧ l = .int .i64 left ∧ i = .int .i64 k ∧ Draws w wr) (fun _ i _ => zs.length - (intOf i).toNat)
    case atStart => exact ⟨0, _, Nat.zero_le _, by omega, by omega, rfl, rfl, Draws.refl _⟩
    case round =>
      obtain ⟨k, left, hk, hl0, hl1, rfl, rfl, hd⟩ := hrel
      by_cases hlt : k < zs.length
      · obtain ⟨b, off, rfl, hbl, hc⟩ := hA.below hd.below (by omega)
        have hck := hc k hlt
        have hsz := HM.out _ (gs_mem hlt)
        unfold maxLen at hsz
        clear hc hA
        by_cases hneg : left - (gs zs k).size < 0
        · go_wp2
          go_ret
          exact ⟨-1, by omega, rfl, hd⟩
        · go_wp2
          go_roundw
          case rel => exact ⟨k + 1, _, by omega, by omega, by omega, rfl, by go_num, hd⟩
          case measure => simp [intOf]; omega
      · go_wp2
        go_ret
        exact ⟨left, by omega, rfl, hd⟩
end Go.Proofs.Ytadkichkfelbbaa
