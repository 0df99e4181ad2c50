/- The walk of FnStableByOrder. -/
import Derived.Test.YtfapllhjccpfpaaStableByOrder
import Derived.Test.YtfapllhjccpfpaaSpecStableByOrder
import Derived.Test.YtfapllhjccpfpaaToOrder
import Derived.Test.YtfapllhjccpfpaaWeak
import Derived.Test.YtfapllhjccpfpaaSameInts
import Derived.Test.YtfapllhjccpfpaaIsort
import Derived.Deep.RegionHeld3
namespace Go.Proofs.Ytfapllhjccpfpaa
open Go.RowKit

/-- What the loads of the law's region read. -/
def BoxS (W0 : World) (g : Nat) (sz : Int) (B : Option Addr) (n d : Nat) (W : World) : Prop := Below W0.heap.size W0 W ∧ W.cell? ⟨g, 0, none⟩ = some (.int .i64 sz) ∧ W.cell? ⟨g, 1, none⟩ = some (.slice B n d)
theorem next_B {W0 W W' : World} {P Q : Prop} (hb : Below W.heap.size W W') (h : Below W0.heap.size W0 W ∧ P ∧ Q) : Below W0.heap.size W0 W' := h.1.trans (hb.mono h.1.size)

set_option maxHeartbeats 3200000 in
set_option maxRecDepth 1000000 in
theorem lawStableByOrder (A B : Option Addr) (c d : Nat) (zs : List Int) (sz : Int) (bs : List Bool) (w : World) (hA : Ints w A zs) (hn : zs.length * 8 ≤ 140737488351232) (hB : Bools w B bs) (hbn : bs.length ≤ 140737488351232) (hsz : sz < 9223372036854775808) :
    Calls Try.prog 4 #[.slice A zs.length c, .agg #[.int .i64 sz, .slice B bs.length d]] w fun e w' => e = .returned (.bool true) ∧ Below w.heap.size w w' := by
  have mixed : Try.prog.follows .mixedOrders = true := by kernel_rfl
  obtain ⟨w0, hw0⟩ : ∃ w0, w0 = w.alloc (.cells #[.int .i64 sz, .slice B bs.length d] 25) := ⟨_, rfl⟩
  have hb0 : Below w.heap.size w w0 := by rw [hw0]; exact (Below.refl _ _).alloc (Nat.le_refl _) _
  have hK0 : Blk w0 w.heap.size 25 #[.int .i64 sz, .slice B bs.length d] := by rw [hw0]; exact Blk.new _ _ _
  have hA0 := hA.below hb0
  have hB0 := hB.below hb0
  obtain ⟨k0, k1⟩ := hK0.pair
  have hc1 := weak_calls A B c d zs sz bs w0 hA0 hn hB0 hbn hsz
  generalize hg : w.heap.size = g0 at hK0 k0 k1
  go_enter Try.func4, Try.ntmps4
  go_wp2_with fail
  rw [← hw0]
  refine hc1.mono ?_
  clear hc1
  rintro e w1 ⟨r, hr, rfl, hG1⟩
  have hb1 := hG1.below
  cases r with
  | false =>
    clear hr
    go_wp2
    go_ret
    exact ⟨rfl, by rw [← hg]; exact hb0.trans (hb1.mono hb0.size)⟩
  | true =>
    have hW := hr rfl
    obtain ⟨T, hT⟩ : ∃ T, T = isort (rel sz bs) zs := ⟨_, rfl⟩
    have hST : StableOf (rel sz bs) zs T := by rw [hT]; exact stable_isort hW
    have hTl : T.length = zs.length := hST.perm.length_eq
    have hnT : T.length * 8 ≤ 140737488351232 := by omega
    have HW := Lib.hid (show StableOf (rel sz bs) zs T ∧ Weak (rel sz bs) (· ∈ zs) ∧ T.length = zs.length from ⟨hST, hW, hTl⟩)
    have hK1 := hK0.below hb1 hK0.lt
    have hlg := hK1.lt
    obtain ⟨q0, q1⟩ := hK1.pair
    have HIA := Lib.hid (fun (W : World) (h : Below w1.heap.size w1 W) => (hA0.below hb1).below h)
    have HIB := Lib.hid (fun (W : World) (h : Below w1.heap.size w1 W) => (hB0.below hb1).below h)
    have HK : Hid (∀ W, Below w1.heap.size w1 W → Below w1.heap.size w1 W ∧ W.cell? ⟨g0, 0, none⟩ = some (.int .i64 sz) ∧ W.cell? ⟨g0, 1, none⟩ = some (.slice B bs.length d)) := fun W h => ⟨h, (h.cell (p := ⟨g0, 0, none⟩) hlg).trans q0, (h.cell (p := ⟨g0, 1, none⟩) hlg).trans q1⟩
    have HB1 := Lib.hid (show Below w.heap.size w w1 from hb0.trans (hb1.mono hb0.size))
    clear hr hT hST hW hTl hK0 hK1 k0 k1 hA0 hB0 hA hB hG1 hb1 hb0 hw0
    go_wp2_with fail
    go_region_held3 (fun w' => Below w1.heap.size w1 w' ∧ w'.cell? ⟨g0, 0, none⟩ = some (.int .i64 sz) ∧ w'.cell? ⟨g0, 1, none⟩ = some (.slice B bs.length d)) ((first | exact HK.out _ ((Below.refl _ _).drew) | exact HK.out _ (by assumption))) ((first
      | (go_at_call 9; refine (toOrder_calls sz B d bs _ (HIB.out _ (And.left (by assumption))) hbn).mono ?_; rintro e w' ⟨Ao, co, rfl, hBo, hbo⟩; have hb9 := next_B hbo (by assumption); (try (rename Ints _ _ T => hOld; have hI2 := hOld.below hbo; clear hOld)))
      | (go_at_call 8; refine (stableByOrder_calls _ _ zs sz _ _ bs _ (HIA.out _ (And.left (by assumption))) hn (by assumption) hbn hsz).mono ?_; rintro e w' ⟨ys, hys, A2, c2, rfl, ho2, hbo⟩; obtain rfl : T = ys := ((hys.2 HW.out.2.1).unique HW.out.1 HW.out.2.1).symm; have hb9 := next_B hbo (by assumption); have hI2 := ho2.ints; clear hys)
      | (go_at_call 12; refine (specStableByOrder_calls _ _ _ _ zs T sz bs _ (HIA.out _ (And.left (by assumption))) hn (by assumption) hbn hsz HW.out.1 HW.out.2.1).mono ?_; rintro e w' ⟨he, hblk, hbo⟩; rw [← HW.out.2.2] at he; subst he; have hb9 := next_B hbo (by assumption); rename Ints _ _ T => hOld; have hI2 := hOld.below hbo; clear hOld; have hI3 := hblk.ints)
      | (go_at_call 11; refine (sameInts_calls _ _ _ _ T T _ (by assumption) (by assumption) hnT).mono ?_; rintro e w' ⟨he, hd⟩; rw [decide_eq_true (rfl : T = T)] at he; subst he; have hb9 := next_B hd.below (by assumption))))
    have hbz : Below w1.heap.size w1 w' := by assumption
    have hbw := HB1.out.trans (hbz.mono HB1.out.size)
    clear HK HIA HIB
    go_wp2
    go_ret
    exact ⟨rfl, by rw [← hg]; exact hbw⟩
end Go.Proofs.Ytfapllhjccpfpaa
