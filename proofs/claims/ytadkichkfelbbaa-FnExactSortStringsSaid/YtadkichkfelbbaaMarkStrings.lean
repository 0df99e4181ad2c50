/- Contracts of markStringS and heldStringS: strings written into a row, and found there again. -/
import Derived.Test.YtadkichkfelbbaaMarkText
import Derived.Test.YtadkichkfelbbaaAppend
import Derived.Deep.RegionHeld3
namespace Go.Proofs.Ytadkichkfelbbaa
open Go.RowKit

/-- The marks of 1, 2, .., n. -/
def marksS (n : Nat) : List ByteArray := (List.range n).map (fun i : Nat => markT (i + 1))
theorem length_marksS (n : Nat) : (marksS n).length = n := by simp [marksS]
theorem gs_marksS {n i : Nat} (h : i < n) : gs (marksS n) i = markT (i + 1) := by
  rw [gs_eq (by rw [length_marksS]; exact h)]
  simp [marksS]

/-- A slice of n cells in block g, from its head, that may be written: cell i of the first k holds mark i. -/
def MarkedS (w : World) (g n k : Nat) : Prop := ∀ i, i < n → (∃ u, w.cell? ⟨g, i, none⟩ = some u) ∧ w.frozen? ⟨g, i, none⟩ = false ∧ (i < k → w.cell? ⟨g, i, none⟩ = some (.string (markT (i + 1))))
theorem MarkedS.step {w : World} {g n k : Nat} (h : MarkedS w g n k) (hk : k < n) : MarkedS (w.setCell ⟨g, k, none⟩ (.string (markT (k + 1)))) g n (k + 1) := by
  intro i hi
  obtain ⟨⟨u, hu⟩, hf, hm⟩ := h i hi
  obtain ⟨⟨u', hu'⟩, _, _⟩ := h k hk
  by_cases e : i = k
  · subst e
    have hs : (w.setCell ⟨g, i, none⟩ (.string (markT (i + 1)))).cell? ⟨g, i, none⟩ = some (.string (markT (i + 1))) := World.cell?_setCell_same _ _ _ hu
    exact ⟨⟨_, hs⟩, by rw [World.frozen?_setCell]; exact hf, fun _ => hs⟩
  · have hs : (w.setCell ⟨g, k, none⟩ (.string (markT (k + 1)))).cell? ⟨g, i, none⟩ = w.cell? ⟨g, i, none⟩ := World.cell?_setCell_other _ _ _ _ (by intro e'; simp only [Addr.mk.injEq] at e'; omega)
    refine ⟨⟨u, hs.trans hu⟩, by rw [World.frozen?_setCell]; exact hf, fun h' => hs.trans (hm (by omega))⟩
theorem frozen_below {B : Nat} {w w' : World} (h : Below B w w') {p : Addr} (hp : p.block < B) : w'.frozen? p = w.frozen? p := by
  unfold World.frozen?
  rw [h.block p.block hp]
theorem MarkedS.below {w w' : World} {g n k : Nat} (h : MarkedS w g n k) (hg : g < w.heap.size) (hb : Below w.heap.size w w') : MarkedS w' g n k := by
  intro i hi
  obtain ⟨⟨u, hu⟩, hf, hm⟩ := h i hi
  have hc := hb.cell (p := ⟨g, i, none⟩) hg
  exact ⟨⟨u, hc.trans hu⟩, (frozen_below hb (p := ⟨g, i, none⟩) hg).trans hf, fun h => hc.trans (hm h)⟩
theorem MarkedS.of_blk {w : World} {g n : Nat} {t : TypeId} {cs : Array Value} (h : Blk w g t cs) (hn : n ≤ cs.size) : MarkedS w g n 0 := fun i hi =>
  ⟨⟨_, (h.cell i).trans (Array.getElem?_eq_getElem (by omega))⟩, h.frozen i, fun h => absurd h (by omega)⟩
theorem MarkedS.strs {w : World} {g n : Nat} (h : MarkedS w g n n) (hg : g < w.heap.size) : Strs w (some ⟨g, 0, none⟩) (marksS n) := fun hn => by
  refine ⟨g, 0, rfl, hg, fun i hi => ?_⟩
  rw [length_marksS] at hi
  rw [Nat.zero_add]
  show w.cell? ⟨g, i, none⟩ = some (.string (gs (marksS n) i))
  rw [gs_marksS hi]
  exact (h i hi).2.2 hi
theorem grown_below {w w1 w2 : World} {row : Option Nat} (h : w.grownBy w1 row) (hb : Below w1.heap.size w1 w2) : w.grownBy w2 row :=
  ⟨hb.os.trans h.os, hb.tape.trans h.tape, hb.output.trans h.output, Nat.le_trans h.size hb.size, fun k hk hne => (hb.block k (Nat.lt_of_lt_of_le hk h.size)).trans (h.block k hk hne)⟩
theorem grown_set {w w1 : World} {g i : Nat} (h : w.grownBy w1 (some g)) (u : Value) : w.grownBy (w1.setCell ⟨g, i, none⟩ u) (some g) :=
  ⟨h.os, h.tape, h.output, by simpa [World.setCell] using h.size, fun k hk hne => (Below.heap_setCell w1 ⟨g, i, none⟩ u k (by rintro rfl; exact hne rfl)).trans (h.block k hk hne)⟩

set_option maxHeartbeats 800000 in
theorem markStringS_calls (g c n : Nat) (w : World) (hM : MarkedS w g n 0) (hg : g < w.heap.size) (hn : n ≤ 1048576) :
    Calls Try.prog 13 #[.slice (some ⟨g, 0, none⟩) n c, .int .i64 1] w fun e w' => e = .returned (.int .i64 ((n : Int) + 1)) ∧ MarkedS w' g n n ∧ w.grownBy w' (some g) := by
  go_enter Try.func13, Try.ntmps13
  go_wp2
  go_loopw [1, 5] (fun v i wr => ∃ k : Nat, k ≤ n ∧ v = .int .i64 ((k : Int) + 1) ∧ i = .int .i64 k ∧ MarkedS wr g n k ∧ w.grownBy wr (some g)) (fun _ i _ => n - (intOf i).toNat)
  case atStart => exact ⟨0, Nat.zero_le _, by simp, rfl, hM, World.grownBy.refl _ _⟩
  case round =>
    obtain ⟨k, hk, rfl, rfl, hm, hgr⟩ := hrel
    by_cases hlt : k < n
    · have hcall := markText_calls (k + 1) wr (by omega) (by omega)
      rw [show ((k + 1 : Nat) : Int) = (k : Int) + 1 by omega] at hcall
      have hgw : g < wr.heap.size := Nat.lt_of_lt_of_le hg hgr.size
      clear hM
      go_wp2_with fail
      refine hcall.mono ?_
      clear hcall
      rintro e w1 ⟨rfl, hb1⟩
      have hm1 := hm.below hgw hb1
      have hgr1 := grown_below hgr hb1
      obtain ⟨⟨u, hu⟩, hf, _⟩ := hm1 k hlt
      have HM := Lib.hid (hm1.step hlt)
      have HG := Lib.hid (grown_set (i := k) hgr1 (.string (markT (k + 1))))
      clear hm hm1 hgr hgr1
      go_wp2
      go_roundw
      case rel => exact ⟨k + 1, by omega, by go_num, by go_num, HM.out, HG.out⟩
      case measure => simp [intOf]; omega
    · obtain rfl : k = n := by omega
      go_wp2
      go_ret
      exact ⟨rfl, hm, hgr⟩

theorem markStringS_none (A : Option Addr) (c : Nat) (w : World) :
    Calls Try.prog 13 #[.slice A 0 c, .int .i64 1] w fun e w' => e = .returned (.int .i64 1) ∧ w = w' := by
  go_enter Try.func13, Try.ntmps13
  go_wp2
  go_loopw [1, 5] (fun v i wr => v = .int .i64 1 ∧ i = .int .i64 0 ∧ Draws w wr ∧ w.drawn = wr.drawn) (fun _ _ _ => 0)
  case atStart => exact ⟨rfl, rfl, Draws.refl _, rfl⟩
  case round =>
    obtain ⟨rfl, rfl, ⟨n, rfl⟩, hd⟩ := hrel
    have hn0 : n = 0 := by
      have : w.drawn = w.drawn + n := hd
      omega
    subst hn0
    go_wp2
    go_ret
    exact ⟨rfl, rfl⟩

theorem next_M {W0 W W' : World} {P : Prop} (k : Below W.heap.size W W') (h : Below W0.heap.size W0 W ∧ P) : Below W0.heap.size W0 W' := h.1.trans (k.mono h.1.size)

set_option maxHeartbeats 1600000 in
theorem heldStringS_calls (A : Option Addr) (c n : Nat) (w : World) (hA : Strs w A (marksS n)) (hn : n ≤ 1048576) :
    Calls Try.prog 14 #[.slice A n c, .int .i64 1] w fun e w' => e = .returned (.int .i64 ((n : Int) + 1)) ∧ Below w.heap.size w w' := by
  go_enter Try.func14, Try.ntmps14
  go_wp2
  go_loopw [1, 5] (fun v i wr => ∃ k : Nat, k ≤ n ∧ v = .int .i64 ((k : Int) + 1) ∧ i = .int .i64 k ∧ Below w.heap.size w wr) (fun _ i _ => n - (intOf i).toNat)
  case atStart => exact ⟨0, Nat.zero_le _, by simp, rfl, Below.refl _ _⟩
  case round =>
    obtain ⟨k, hk, rfl, rfl, hb⟩ := hrel
    by_cases hlt : k < n
    · obtain ⟨b, off, rfl, hbl, hc⟩ := hA.below hb (by rw [length_marksS]; omega)
      have hck := hc k (by rw [length_marksS]; exact hlt)
      simp only [gs_marksS hlt] at hck
      have hcall := fun W => markText_calls (k + 1) W (by omega) (by omega)
      rw [show ((k + 1 : Nat) : Int) = (k : Int) + 1 by omega] at hcall
      have hq : ((markT (k + 1)).toList != (markT (k + 1)).toList) = false := by simp
      obtain ⟨W0, hW0⟩ : ∃ W0 : World, W0 = wr := ⟨_, rfl⟩
      rw [← hW0] at hck hb hbl
      have HK : Hid (∀ W, Below W0.heap.size W0 W → Below W0.heap.size W0 W ∧ W.cell? ⟨b, off + k, none⟩ = some (.string (markT (k + 1)))) := fun W h => ⟨h, (h.cell (p := ⟨b, off + k, none⟩) hbl).trans hck⟩
      clear hc hA
      go_wp2
      rw [← hW0]
      clear hW0
      have hi1 : (0 : Int) ≤ (k : Int) := by omega
      have hi2 : (k : Int) < (n : Int) := by omega
      go_region_held3 (fun w' => Below W0.heap.size W0 w' ∧ w'.cell? ⟨b, off + k, none⟩ = some (.string (markT (k + 1)))) ((first | exact HK.out _ ((Below.refl _ _).drew) | exact HK.out _ (by assumption))) ((go_at_call 30; refine (hcall _).mono ?_; rintro e w' ⟨rfl, hbc⟩; have hb9 := next_M hbc (by assumption)))
      have hbz : Below W0.heap.size W0 w' := by assumption
      have hbw : Below w.heap.size w w' := hb.trans (hbz.mono hb.size)
      clear hq HK hcall
      go_wp2
      go_roundw
      case rel => exact ⟨k + 1, by omega, by go_num, by go_num, hbw⟩
      case measure => simp [intOf]; omega
    · obtain rfl : k = n := by omega
      go_wp2
      go_ret
      exact ⟨rfl, hb⟩
end Go.Proofs.Ytadkichkfelbbaa
