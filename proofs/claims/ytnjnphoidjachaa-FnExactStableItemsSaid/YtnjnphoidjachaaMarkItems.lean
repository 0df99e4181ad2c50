/- Contracts of markItemS and heldItemS: numbers written into the cells of a row of items, and found there again. -/
import Derived.Test.YtnjnphoidjachaaInfo
import Derived.Test.YtnjnphoidjachaaAppendItems
namespace Go.Proofs.Ytnjnphoidjachaa
open Go.RowKit

/-- The marks 1, 2, .., n. -/
def marks (n : Nat) : List Int := (List.range n).map (fun i : Nat => (i : Int) + 1)
theorem length_marks (n : Nat) : (marks n).length = n := by simp [marks]
theorem gi_marks {n i : Nat} (h : i < n) : gi (marks n) i = (i : Int) + 1 := by
  rw [gi_eq (by rw [length_marks]; exact h)]
  simp [marks]

/-- A slice of n cells in block g, from its head, that may be written: cell i of the first k holds mark i. -/
def Marked (w : World) (g n k : Nat) : Prop := ∀ i, i < n → (∃ u, w.cell? ⟨g, i, none⟩ = some u) ∧ w.frozen? ⟨g, i, none⟩ = false ∧ (i < k → w.cell? ⟨g, i, none⟩ = some (.int .i64 ((i : Int) + 1)))
theorem Marked.step {w : World} {g n k : Nat} (h : Marked w g n k) (hk : k < n) : Marked (w.setCell ⟨g, k, none⟩ (.int .i64 ((k : Int) + 1))) g n (k + 1) := by
  intro i hi
  obtain ⟨⟨u, hu⟩, hf, hm⟩ := h i hi
  obtain ⟨⟨u', hu'⟩, _, _⟩ := h k hk
  by_cases e : i = k
  · subst e
    have hs : (w.setCell ⟨g, i, none⟩ (.int .i64 ((i : Int) + 1))).cell? ⟨g, i, none⟩ = some (.int .i64 ((i : Int) + 1)) := World.cell?_setCell_same _ _ _ hu
    exact ⟨⟨_, hs⟩, by rw [World.frozen?_setCell]; exact hf, fun _ => hs⟩
  · have hs : (w.setCell ⟨g, k, none⟩ (.int .i64 ((k : Int) + 1))).cell? ⟨g, i, none⟩ = w.cell? ⟨g, i, none⟩ := World.cell?_setCell_other _ _ _ _ (by intro e'; simp only [Addr.mk.injEq] at e'; omega)
    refine ⟨⟨u, hs.trans hu⟩, by rw [World.frozen?_setCell]; exact hf, fun h' => hs.trans (hm (by omega))⟩
theorem Marked.of_blk {w : World} {g n : Nat} {t : TypeId} {cs : Array Value} (h : Blk w g t cs) (hn : n ≤ cs.size) : Marked w g n 0 := fun i hi =>
  ⟨⟨_, (h.cell i).trans (Array.getElem?_eq_getElem (by omega))⟩, h.frozen i, fun h => absurd h (by omega)⟩
theorem Marked.ints {w : World} {g n : Nat} (h : Marked w g n n) (hg : g < w.heap.size) : Ints w (some ⟨g, 0, none⟩) (marks n) := fun hn => by
  refine ⟨g, 0, rfl, hg, fun i hi => ?_⟩
  rw [length_marks] at hi
  rw [Nat.zero_add]
  show w.cell? ⟨g, i, none⟩ = some (.int .i64 (gi (marks n) i))
  rw [gi_marks hi]
  exact (h i hi).2.2 hi

theorem grown_set {w w1 : World} {g i : Nat} (h : w.grownBy w1 (some g)) (u : Value) : w.grownBy (w1.setCell ⟨g, i, none⟩ u) (some g) :=
  ⟨h.os, h.tape, h.output, by simpa [World.setCell] using h.size, fun k hk hne => (Below.heap_setCell w1 ⟨g, i, none⟩ u k (by rintro rfl; exact hne rfl)).trans (h.block k hk hne)⟩

set_option maxHeartbeats 800000 in
theorem markItemS_calls (g c n : Nat) (w : World) (hM : Marked w g (n * 2) 0) (hn : n * 16 ≤ 140737488351232) :
    Calls Try.prog 24 #[.slice (some ⟨g, 0, none⟩) n c, .int .i64 1] w fun e w' => e = .returned (.int .i64 ((n : Int) * 2 + 1)) ∧ Marked w' g (n * 2) (n * 2) ∧ w.grownBy w' (some g) := by
  go_enter Try.func24, Try.ntmps24
  go_wp2
  go_loopw [1, 5] (fun v i wr => ∃ k : Nat, k ≤ n ∧ v = .int .i64 ((k : Int) * 2 + 1) ∧ i = .int .i64 k ∧ Marked wr g (n * 2) (k * 2) ∧ w.grownBy wr (some g)) (fun _ i _ => n - (intOf i).toNat)
  case atStart => exact ⟨0, Nat.zero_le _, by simp, rfl, by simpa using hM, World.grownBy.refl _ _⟩
  case round =>
    obtain ⟨k, hk, rfl, rfl, hm, hg⟩ := hrel
    by_cases hlt : k < n
    · obtain ⟨⟨u, hu⟩, hf, _⟩ := hm (k * 2) (by omega)
      have hm1 := hm.step (k := k * 2) (by omega)
      rw [show ((k * 2 : Nat) : Int) = (k : Int) * 2 by omega] at hm1
      have hg1 := grown_set (i := k * 2) hg (.int .i64 ((k : Int) * 2 + 1))
      obtain ⟨⟨u', hu'⟩, hf', _⟩ := hm1 (k * 2 + 1) (by omega)
      have hm2 := hm1.step (k := k * 2 + 1) (by omega)
      rw [show ((k * 2 + 1 : Nat) : Int) + 1 = (k : Int) * 2 + 1 + 1 by omega] at hm2
      have HM := Lib.hid hm2
      have HG := Lib.hid (grown_set (i := k * 2 + 1) hg1 (.int .i64 ((k : Int) * 2 + 1 + 1)))
      rw [World.frozen?_setCell] at hf'
      clear hm hM hm1 hm2 hg1
      go_wp2
      go_roundw
      case rel => exact ⟨k + 1, by omega, by go_num, by go_num, by rw [show (k + 1) * 2 = k * 2 + 1 + 1 by omega]; exact HM.out, HG.out⟩
      case measure => simp [intOf]; omega
    · obtain rfl : k = n := by omega
      go_wp2
      go_ret
      exact ⟨rfl, hm, hg⟩

theorem markItemS_none (A : Option Addr) (c : Nat) (w : World) :
    Calls Try.prog 24 #[.slice A 0 c, .int .i64 1] w fun e w' => e = .returned (.int .i64 1) ∧ w = w' := by
  go_enter Try.func24, Try.ntmps24
  go_wp2
  go_loopw [1, 5] (fun v i wr => v = .int .i64 1 ∧ i = .int .i64 0 ∧ Draws w wr ∧ w.drawn = wr.drawn) (fun _ _ _ => 0)
  case atStart => exact ⟨rfl, rfl, Draws.refl _, rfl⟩
  case round =>
    obtain ⟨rfl, rfl, ⟨n, rfl⟩, hd⟩ := hrel
    have hn0 : n = 0 := by
      have : w.drawn = w.drawn + n := hd
      omega
    subst hn0
    go_wp2
    go_ret
    exact ⟨rfl, rfl⟩

set_option maxHeartbeats 800000 in
theorem heldItemS_calls (A : Option Addr) (c n : Nat) (w : World) (hA : Ints w A (marks (n * 2))) (hn : n * 16 ≤ 140737488351232) :
    Calls Try.prog 25 #[.slice A n c, .int .i64 1] w fun e w' => e = .returned (.int .i64 ((n : Int) * 2 + 1)) ∧ Draws w w' := by
  go_enter Try.func25, Try.ntmps25
  go_wp2
  go_loopw [1, 5] (fun v i wr => ∃ k : Nat, k ≤ n ∧ v = .int .i64 ((k : Int) * 2 + 1) ∧ i = .int .i64 k ∧ Draws w wr) (fun _ i _ => n - (intOf i).toNat)
  case atStart => exact ⟨0, Nat.zero_le _, by simp, rfl, Draws.refl _⟩
  case round =>
    obtain ⟨k, hk, rfl, rfl, hd⟩ := hrel
    by_cases hlt : k < n
    · obtain ⟨b, off, rfl, hbl, hc⟩ := hA.below hd.below (by rw [length_marks]; omega)
      have hck := hc (k * 2) (by rw [length_marks]; omega)
      have hck' := hc (k * 2 + 1) (by rw [length_marks]; omega)
      simp only [gi_marks (show k * 2 < n * 2 by omega)] at hck
      simp only [gi_marks (show k * 2 + 1 < n * 2 by omega)] at hck'
      rw [show ((k * 2 : Nat) : Int) = (k : Int) * 2 by omega] at hck
      rw [show ((k * 2 + 1 : Nat) : Int) + 1 = (k : Int) * 2 + 1 + 1 by omega, ← Nat.add_assoc] at hck'
      have hq : (((k : Int) * 2 + 1) != ((k : Int) * 2 + 1)) = false := by simp
      have hq' : (((k : Int) * 2 + 1 + 1) != ((k : Int) * 2 + 1 + 1)) = false := by simp
      clear hc hA
      go_wp2
      go_roundw
      case rel => exact ⟨k + 1, by omega, by go_num, by go_num, hd⟩
      case measure => simp [intOf]; omega
    · obtain rfl : k = n := by omega
      go_wp2
      go_ret
      exact ⟨rfl, hd⟩
end Go.Proofs.Ytnjnphoidjachaa
