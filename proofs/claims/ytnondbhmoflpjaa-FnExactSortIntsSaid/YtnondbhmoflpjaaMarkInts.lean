/- Contracts of markIntS and heldIntS: numbers written into a row, and found there again. -/
import Derived.Test.YtnondbhmoflpjaaInfo
import Derived.Test.YtnondbhmoflpjaaAppend
namespace Go.Proofs.Ytnondbhmoflpjaa
open Go.RowKit

/-- The marks 1, 2, .., n. -/
def marks (n : Nat) : List Int := (List.range n).map (fun i : Nat => (i : Int) + 1)
theorem length_marks (n : Nat) : (marks n).length = n := by simp [marks]
theorem gi_marks {n i : Nat} (h : i < n) : gi (marks n) i = (i : Int) + 1 := by
  rw [gi_eq (by rw [length_marks]; exact h)]
  simp [marks]

/-- A slice of n cells in block g, from its head, that may be written: cell i of the first k holds mark i. -/
def Marked (w : World) (g n k : Nat) : Prop := ∀ i, i < n → (∃ u, w.cell? ⟨g, i, none⟩ = some u) ∧ w.frozen? ⟨g, i, none⟩ = false ∧ (i < k → w.cell? ⟨g, i, none⟩ = some (.int .i64 ((i : Int) + 1)))
theorem Marked.step {w : World} {g n k : Nat} (h : Marked w g n k) (hk : k < n) : Marked (w.setCell ⟨g, k, none⟩ (.int .i64 ((k : Int) + 1))) g n (k + 1) := by
  intro i hi
  obtain ⟨⟨u, hu⟩, hf, hm⟩ := h i hi
  obtain ⟨⟨u', hu'⟩, _, _⟩ := h k hk
  by_cases e : i = k
  · subst e
    have hs : (w.setCell ⟨g, i, none⟩ (.int .i64 ((i : Int) + 1))).cell? ⟨g, i, none⟩ = some (.int .i64 ((i : Int) + 1)) := World.cell?_setCell_same _ _ _ hu
    exact ⟨⟨_, hs⟩, by rw [World.frozen?_setCell]; exact hf, fun _ => hs⟩
  · have hs : (w.setCell ⟨g, k, none⟩ (.int .i64 ((k : Int) + 1))).cell? ⟨g, i, none⟩ = w.cell? ⟨g, i, none⟩ := World.cell?_setCell_other _ _ _ _ (by intro e'; simp only [Addr.mk.injEq] at e'; omega)
    refine ⟨⟨u, hs.trans hu⟩, by rw [World.frozen?_setCell]; exact hf, fun h' => hs.trans (hm (by omega))⟩
theorem Marked.of_blk {w : World} {g n : Nat} {t : TypeId} {cs : Array Value} (h : Blk w g t cs) (hn : n ≤ cs.size) : Marked w g n 0 := fun i hi =>
  ⟨⟨_, (h.cell i).trans (Array.getElem?_eq_getElem (by omega))⟩, h.frozen i, fun h => absurd h (by omega)⟩
theorem Marked.ints {w : World} {g n : Nat} (h : Marked w g n n) (hg : g < w.heap.size) : Ints w (some ⟨g, 0, none⟩) (marks n) := fun hn => by
  refine ⟨g, 0, rfl, hg, fun i hi => ?_⟩
  rw [length_marks] at hi
  rw [Nat.zero_add]
  show w.cell? ⟨g, i, none⟩ = some (.int .i64 (gi (marks n) i))
  rw [gi_marks hi]
  exact (h i hi).2.2 hi

set_option maxHeartbeats 400000 in
theorem markIntS_calls (g c n : Nat) (w : World) (hM : Marked w g n 0) (hn : n * 8 ≤ 140737488351232) :
    Calls Try.prog 19 #[.slice (some ⟨g, 0, none⟩) n c, .int .i64 1] w fun e w' => e = .returned (.int .i64 ((n : Int) + 1)) ∧ Marked w' g n n ∧ w.grownBy w' (some g) := by
  go_enter Try.func19, Try.ntmps19
  go_wp2
  go_loopw [1, 5] (fun v i wr => ∃ k : Nat, k ≤ n ∧ v = .int .i64 ((k : Int) + 1) ∧ i = .int .i64 k ∧ Marked wr g n k ∧ w.grownBy wr (some g)) (fun _ i _ => n - (intOf i).toNat)
  case atStart => exact ⟨0, Nat.zero_le _, by simp, rfl, hM, World.grownBy.refl _ _⟩
  case round =>
    obtain ⟨k, hk, rfl, rfl, hm, hg⟩ := hrel
    by_cases hlt : k < n
    · obtain ⟨⟨u, hu⟩, hf, _⟩ := hm k hlt
      have HM := Lib.hid (hm.step hlt)
      have HG : Hid (w.grownBy (wr.setCell ⟨g, k, none⟩ (.int .i64 ((k : Int) + 1))) (some g)) := ⟨hg.os, hg.tape, hg.output, by simpa [World.setCell] using hg.size, fun i hi hne => (Below.heap_setCell wr ⟨g, k, none⟩ _ i (by rintro rfl; exact hne rfl)).trans (hg.block i hi hne)⟩
      clear hm hM
      go_wp2
      go_roundw
      case rel => exact ⟨k + 1, by omega, by go_num, by go_num, HM.out, HG.out⟩
      case measure => simp [intOf]; omega
    · obtain rfl : k = n := by omega
      go_wp2
      go_ret
      exact ⟨rfl, hm, hg⟩

theorem markIntS_none (A : Option Addr) (c : Nat) (w : World) :
    Calls Try.prog 19 #[.slice A 0 c, .int .i64 1] w fun e w' => e = .returned (.int .i64 1) ∧ w = w' := by
  go_enter Try.func19, Try.ntmps19
  go_wp2
  go_loopw [1, 5] (fun v i wr => v = .int .i64 1 ∧ i = .int .i64 0 ∧ Draws w wr ∧ w.drawn = wr.drawn) (fun _ _ _ => 0)
  case atStart => exact ⟨rfl, rfl, Draws.refl _, rfl⟩
  case round =>
    obtain ⟨rfl, rfl, ⟨n, rfl⟩, hd⟩ := hrel
    have hn0 : n = 0 := by
      have : w.drawn = w.drawn + n := hd
      omega
    subst hn0
    go_wp2
    go_ret
    exact ⟨rfl, rfl⟩

set_option maxHeartbeats 400000 in
theorem heldIntS_calls (A : Option Addr) (c n : Nat) (w : World) (hA : Ints w A (marks n)) (hn : n * 8 ≤ 140737488351232) :
    Calls Try.prog 20 #[.slice A n c, .int .i64 1] w fun e w' => e = .returned (.int .i64 ((n : Int) + 1)) ∧ Draws w w' := by
  go_enter Try.func20, Try.ntmps20
  go_wp2
  go_loopw [1, 5] (fun v i wr => ∃ k : Nat, k ≤ n ∧ v = .int .i64 ((k : Int) + 1) ∧ i = .int .i64 k ∧ Draws w wr) (fun _ i _ => n - (intOf i).toNat)
  case atStart => exact ⟨0, Nat.zero_le _, by simp, rfl, Draws.refl _⟩
  case round =>
    obtain ⟨k, hk, rfl, rfl, hd⟩ := hrel
    by_cases hlt : k < n
    · obtain ⟨b, off, rfl, hbl, hc⟩ := hA.below hd.below (by rw [length_marks]; omega)
      have hck := hc k (by rw [length_marks]; exact hlt)
      simp only [gi_marks hlt] at hck
      have hq : (((k : Int) + 1) != ((k : Int) + 1)) = false := by simp
      clear hc hA
      go_wp2
      go_roundw
      case rel => exact ⟨k + 1, by omega, by go_num, by go_num, hd⟩
      case measure => simp [intOf]; omega
    · obtain rfl : k = n := by omega
      go_wp2
      go_ret
      exact ⟨rfl, hd⟩
end Go.Proofs.Ytnondbhmoflpjaa
