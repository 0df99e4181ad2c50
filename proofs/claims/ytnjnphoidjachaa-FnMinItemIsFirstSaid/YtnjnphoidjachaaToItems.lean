/- Contract of the laws' toItems: items in new memory. -/
import Derived.Test.YtnjnphoidjachaaInfoItem
import Derived.Test.YtnjnphoidjachaaAppendItems
namespace Go.Proofs.Ytnjnphoidjachaa
open Go.RowKit

set_option maxHeartbeats 800000 in
theorem toItems_calls (A : Option Addr) (c : Nat) (zs : List (Int × Int)) (w : World) (hA : Items w A zs) (hn : zs.length * 16 ≤ 140737488351232) :
    Calls Try.prog 12 #[.slice A zs.length c] w (RetP 41 zs w) := by
  go_enter Try.func12, Try.ntmps12
  go_wp2
  go_loopw [3, 8] (fun v i wr => ∃ (k : Nat) (l : List (Int × Int)) (B : Option Addr) (cap : Nat), k ≤ zs.length ∧ l.length ≤ k ∧ v = .slice B l.length cap ∧ i = .int .i64 k ∧ l = zs.take k ∧ OwnP 41 wr w.heap.size B cap l ∧ Below w.heap.size w wr) (fun _ i _ => zs.length - (intOf i).toNat)
  case atStart => exact ⟨0, [], none, 0, Nat.zero_le _, Nat.le_refl _, rfl, rfl, rfl, OwnP.nil _ _ _, Below.refl _ _⟩
  case round =>
    obtain ⟨k, l, B, cap, hk, hlk, rfl, rfl, hl, ho, hb⟩ := hrel
    have HL := Lib.hid hl
    clear hl
    by_cases hlt : k < zs.length
    · obtain ⟨b, off, rfl, hbl, hc⟩ := hA.below hb (by omega)
      obtain ⟨hck, hck'⟩ := hc k hlt
      have HN := Lib.hid (show l ++ [(gk zs k, gt zs k)] = zs.take (k + 1) by rw [take_pair hlt, ← HL.out])
      have hbs := hb.size
      clear hc hA
      go_wp2_with (at_builtin; refine wpList_append_item _ rfl (.tmp 12) (.tmp 18) 23 rfl w.heap.size 41 Try.underlying23 infoItem B cap l rfl (ho.below ((Below.refl _ _).alloc (Nat.le_refl _) _)) (gk zs k) (gt zs k) (wr.heap.size + 1) (by simp) rfl ?c1 ?c2 ?_)
      case c1 => omega
      case c2 => simp; omega
      intro B' cap' w' ho' hb'
      have hb2 : Below w.heap.size w w' := (hb.alloc hbs _).trans hb'
      clear hb'
      go_wp2
      go_roundw
      case rel => exact ⟨k + 1, l ++ [(gk zs k, gt zs k)], B', cap', by omega, by simp; omega, by simp, by go_num, HN.out, ho', hb2⟩
      case measure => simp [intOf]; omega
    · have HN := Lib.hid (show l = zs by rw [HL.out, List.take_of_length_le (by omega)])
      go_wp2
      go_ret
      have hN := HN.out
      subst hN
      exact ⟨B, cap, rfl, ho, hb⟩
end Go.Proofs.Ytnjnphoidjachaa
