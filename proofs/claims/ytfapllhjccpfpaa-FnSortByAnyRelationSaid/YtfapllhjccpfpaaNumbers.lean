/- Contract of numbers: a list of its own. -/
import Derived.Test.YtfapllhjccpfpaaInfo
import Derived.Test.YtfapllhjccpfpaaAppend
namespace Go.Proofs.Ytfapllhjccpfpaa
open Go.RowKit

set_option maxHeartbeats 400000 in
theorem numbers_calls (A : Option Addr) (c : Nat) (zs : List Int) (w : World) (hA : Ints w A zs) (hn : zs.length * 8 ≤ 140737488351232) :
    Calls Try.prog 16 #[.slice A zs.length c] w (RetOwn 3 zs w) := by
  obtain ⟨i0, hi, hz0, hz1, hz2⟩ := info_parts infoInt
  have hr := Reads.of_ints hA
  have HR := Lib.hid hr
  clear hr
  go_enter Try.func16, Try.ntmps16
  go_wp2_with (at_builtin; refine wpList_append_any _ rfl _ _ 22 rfl w.heap.size 3 i0 (.int .i64 0) 1 8 Try.underlying22 hi hz0 hz1 hz2 rfl (by decide) _ 0 [] rfl (World.ownsRow_nil _ _ _ _) w.heap.size A zs.length c (zs.map (Value.int .i64)) rfl HR.out (oneCell_ints zs) ?c1 ?c2 (Nat.le_refl _) ?_)
  case c1 => unfold maxLen; omega
  case c2 => omega
  intro v' w' hown hg hb
  obtain ⟨A', cap', rfl, ho⟩ := own_form hown
  have hbel : Below w.heap.size w w' := (Below.refl _ _).grown hg (Nat.le_refl _) (fun k h => by cases h)
  clear hg hb hown
  go_wp2
  go_ret
  exact ⟨_, _, rfl, ho, hbel⟩
end Go.Proofs.Ytfapllhjccpfpaa
