/- Contract of the laws' sameElements at two lists of the same items. -/
import Derived.Test.YtnjnphoidjachaaCountItem
import Derived.Deep.RegionHeld3
namespace Go.Proofs.Ytnjnphoidjachaa
open Go.RowKit

theorem next_S {W0 W W' : World} {P : Prop} (k : Below W.heap.size W W') (h : Below W0.heap.size W0 W ∧ P) : Below W0.heap.size W0 W' := h.1.trans (k.mono h.1.size)

set_option maxHeartbeats 1600000 in
theorem sameElements_perm (A B : Option Addr) (c d : Nat) (xs ys : List (Int × Int)) (w : World) (hA : Items w A xs) (hB : Items w B ys) (hn : xs.length * 16 ≤ 140737488351232) (hp : xs.Perm ys) :
    Calls Try.prog 18 #[.slice A xs.length c, .slice B ys.length d] w fun e w' => e = .returned (.bool true) ∧ Below w.heap.size w w' := by
  have hl := hp.length_eq
  have hne : ((xs.length : Int) != (ys.length : Int)) = false := by simp [hl]
  have hy : ys.length * 16 ≤ 140737488351232 := by omega
  have HC : Hid (∀ v, cntP xs v = cntP ys v) := fun v => hp.count_eq v
  clear hp hl
  go_enter Try.func18, Try.ntmps18
  go_wp2
  clear hne
  go_loopw [14] (fun i wr => ∃ k : Nat, k ≤ xs.length ∧ i = .int .i64 k ∧ Below w.heap.size w wr) (fun i _ => xs.length - (intOf i).toNat)
  case atStart => exact ⟨0, Nat.zero_le _, rfl, Below.refl _ _⟩
  case round =>
    obtain ⟨k, hk, rfl, hb⟩ := hrel
    by_cases hlt : k < xs.length
    · obtain ⟨b, off, rfl, hbl, hc⟩ := hA.below hb (by omega)
      obtain ⟨hck, hck'⟩ := hc k hlt
      obtain ⟨W0, hW0⟩ : ∃ W0, W0 = wr.alloc (.cells #[.int .i64 (gk xs k), .int .i64 (gt xs k)] 41) := ⟨_, rfl⟩
      have hb0 : Below w.heap.size w W0 := by rw [hW0]; exact hb.alloc hb.size _
      have hk0 : Blk W0 wr.heap.size 41 #[.int .i64 (gk xs k), .int .i64 (gt xs k)] := by rw [hW0]; exact Blk.new _ _ _
      have hA0 := hA.below hb0
      have hB0 := hB.below hb0
      have HIA : Hid (∀ W, Below W0.heap.size W0 W → Items W (some ⟨b, off, none⟩) xs) := fun W h => hA0.below h
      have HIB : Hid (∀ W, Below W0.heap.size W0 W → Items W B ys) := fun W h => hB0.below h
      have hq : ((cntP xs (gk xs k, gt xs k) : Int) != (cntP ys (gk xs k, gt xs k) : Int)) = false := by rw [HC.out]; simp
      have hlg := hk0.lt
      obtain ⟨hx1, hx2⟩ := hk0.pair
      clear hc hA0 hB0 hA hB
      go_wp2
      rw [← hW0]
      clear hW0
      have HK : Hid (∀ W, Below W0.heap.size W0 W → Below W0.heap.size W0 W ∧ W.cell? ⟨wr.heap.size, 0, none⟩ = some (.int .i64 (gk xs k)) ∧ W.cell? ⟨wr.heap.size, 1, none⟩ = some (.int .i64 (gt xs k))) := fun W h => ⟨h, (h.cell (p := ⟨wr.heap.size, 0, none⟩) hlg).trans hx1, (h.cell (p := ⟨wr.heap.size, 1, none⟩) hlg).trans hx2⟩
      go_region_held3 (fun w' => Below W0.heap.size W0 w' ∧ w'.cell? ⟨wr.heap.size, 0, none⟩ = some (.int .i64 (gk xs k)) ∧ w'.cell? ⟨wr.heap.size, 1, none⟩ = some (.int .i64 (gt xs k))) ((first | exact HK.out _ ((Below.refl _ _).drew) | exact HK.out _ (by assumption) )) ((go_at_call 38; refine (countItem_calls _ _ _ _ _ _ ?_ (by assumption)).mono ?_; (first | exact HIA.out _ (And.left (by assumption)) | exact HIB.out _ (And.left (by assumption))); rintro e w' ⟨rfl, hbc⟩; have hb9 := next_S hbc (by assumption)))
      have hbz : Below W0.heap.size W0 w' := by assumption
      have hbw : Below w.heap.size w w' := hb0.trans (hbz.mono hb0.size)
      clear hq HK
      go_wp2
      go_roundw
      case rel => exact ⟨k + 1, by omega, by go_num, hbw⟩
      case measure => simp [intOf]; omega
    · go_wp2
      go_ret
      exact ⟨rfl, hb⟩
end Go.Proofs.Ytnjnphoidjachaa
