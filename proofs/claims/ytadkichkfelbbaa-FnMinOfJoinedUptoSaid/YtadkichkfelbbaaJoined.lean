/- Contract of the laws' joined: two lists one behind the other, in new memory. -/
import Derived.Test.YtadkichkfelbbaaInfo
import Derived.Test.YtadkichkfelbbaaAppend
namespace Go.Proofs.Ytadkichkfelbbaa
open Go.RowKit

set_option maxHeartbeats 400000 in
theorem joined_calls (A B : Option Addr) (c d : Nat) (xs ys : List Int) (w : World) (hA : Ints w A xs) (hB : Ints w B ys) (hn : (xs.length + ys.length) * 8 ≤ 140737488355328) :
    Calls Try.prog 20 #[.slice A xs.length c, .slice B ys.length d] w (RetOwn 3 (xs ++ ys) w) := by
  obtain ⟨i0, hi, hz0, hz1, hz2⟩ := info_parts infoInt
  have HR := Lib.hid (Reads.of_ints hA)
  go_enter Try.func20, Try.ntmps20
  go_wp2_with (at_builtin; refine wpList_append_any _ rfl (.const (.slice none 0 0)) (.tmp 5) 29 rfl w.heap.size 3 i0 (.int .i64 0) 1 8 Try.underlying29 hi hz0 hz1 hz2 rfl (by decide) _ 0 [] rfl (World.ownsRow_nil _ _ _ _) w.heap.size A xs.length c (xs.map (Value.int .i64)) rfl HR.out (oneCell_ints xs) ?c1 ?c2 (Nat.le_refl _) ?_)
  case c1 => unfold maxLen; omega
  case c2 => omega
  intro v' w1 hown hg hb
  obtain ⟨A', cap', rfl, ho⟩ := own_form hown
  have hb1 : Below w.heap.size w w1 := (Below.refl _ _).grown hg (Nat.le_refl _) (fun k h => by cases h)
  clear hg hb hown HR
  have HR2 := Lib.hid (Reads.of_ints (hB.below hb1))
  go_wp2_with (at_builtin; refine wpList_append_any _ rfl (.tmp 6) (.tmp 7) 29 rfl w.heap.size 3 i0 (.int .i64 0) 1 8 Try.underlying29 hi hz0 hz1 hz2 rfl (by decide) _ xs.length (xs.map (Value.int .i64)) rfl ho w1.heap.size B ys.length d (ys.map (Value.int .i64)) rfl HR2.out (oneCell_ints ys) ?c3 ?c4 hb1.size ?_)
  case c3 => unfold maxLen; omega
  case c4 => omega
  intro v2 w2 hown2 hg2 hb2
  have hown3 : w2.ownsRow w.heap.size 3 1 v2 (xs ++ ys).length ((xs ++ ys).map (Value.int .i64)) := by simpa using hown2
  obtain ⟨A2, cap2, rfl, ho2⟩ := own_form hown3
  have hbb : Below w.heap.size w w2 := hb1.grown hg2 hb1.size (fun k hk => by
    rcases ho.2 with ⟨h0, _⟩ | ⟨g, _, _, hv, hbb, _⟩
    · rw [h0] at hk; cases hk
    · rw [hv] at hk; cases hk; exact hbb)
  clear hg2 hb2 hown2 hown3 ho hi hz0 hz1 hz2 HR2
  go_wp2
  go_ret
  exact ⟨_, _, rfl, ho2, hbb⟩
end Go.Proofs.Ytadkichkfelbbaa
