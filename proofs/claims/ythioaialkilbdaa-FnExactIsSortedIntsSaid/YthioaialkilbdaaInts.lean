/- Contracts of the small functions on slices of ints. -/
import Derived.Test.YthioaialkilbdaaPlain
import Derived.Test.YthioaialkilbdaaProg
namespace Go.Proofs.Ythioaialkilbdaa
open Go.RowKit

theorem infoInt : (Try.prog.info? 3).map (fun i => (i.zero, i.size, i.bytes)) = some (some (.int .i64 0), 1, 8) := by kernel_rfl

/-- What toIntS's loop has made after k rounds. -/
def Made (w : World) (B : Nat) (t : TypeId) (n k : Nat) (f : Nat → Value) : Prop := ∃ cs : Array Value, Blk w B t cs ∧ cs.size = n ∧ ∀ i, i < k → cs[i]? = some (f i)
theorem Made.cell {w : World} {B n k : Nat} {t : TypeId} {f : Nat → Value} (h : Made w B t n k f) (hk : k < n) : ∃ u, w.cell? ⟨B, k, none⟩ = some u := by
  obtain ⟨cs, hb, hs, _⟩ := h
  exact ⟨cs[k]'(by omega), (hb.cell k).trans (Array.getElem?_eq_getElem (by omega))⟩
theorem Made.frozen {w : World} {B n k : Nat} {t : TypeId} {f : Nat → Value} (h : Made w B t n k f) : w.frozen? ⟨B, k, none⟩ = false := by
  obtain ⟨cs, hb, hs, _⟩ := h
  exact hb.frozen k
theorem Made.step {w : World} {B n k : Nat} {t : TypeId} {f : Nat → Value} (h : Made w B t n k f) (hk : k < n) : Made (w.setCell ⟨B, k, none⟩ (f k)) B t n (k + 1) f := by
  obtain ⟨cs, hb, hs, hf⟩ := h
  refine ⟨_, hb.set_ k (f k), by simpa using hs, fun i hi => ?_⟩
  rcases Nat.lt_or_ge i k with h1 | h1
  · rw [Array.getElem?_setIfInBounds_ne (by omega)]; exact hf i h1
  · obtain rfl : i = k := by omega
    rw [Array.getElem?_setIfInBounds_self_of_lt (by omega)]
theorem Made.start (w : World) (n : Nat) (z : Value) (t : TypeId) (f : Nat → Value) : Made (w.alloc (.cells (madeCells #[z] n) t)) w.heap.size t n 0 f :=
  ⟨_, Blk.new w t _, size_madeCells _ _, fun i hi => absurd hi (by omega)⟩

set_option maxHeartbeats 400000 in
theorem toIntS_calls (A : Option Addr) (c : Nat) (zs : List Int) (w : World) (hA : Ints w A zs) (hn : zs.length * 8 ≤ 140737488351232) :
    Calls Try.prog 16 #[.slice A zs.length c] w fun e w' => e = .returned (.slice (some ⟨w.heap.size, 0, none⟩) zs.length zs.length) ∧ Blk w' w.heap.size 3 (intCells zs) ∧ Below w.heap.size w w' := by
  have hmk := run_make_row' (P := Try.prog) 22 3 (.int .i64 0) 8 Try.underlying22 infoInt rfl .i64 .i64 zs.length (by omega) (by omega)
  go_enter Try.func16, Try.ntmps16
  go_wp2
  clear hmk
  go_loopw [4] (fun i wr => ∃ k : Nat, k ≤ zs.length ∧ i = .int .i64 k ∧ Made wr w.heap.size 3 zs.length k (fun i => .int .i64 (gi zs i)) ∧ Below w.heap.size w wr) (fun i _ => zs.length - (intOf i).toNat)
  case atStart => exact ⟨0, Nat.zero_le _, rfl, Made.start _ _ _ _ _, (Below.refl _ _).alloc (Nat.le_refl _) _⟩
  case round =>
    obtain ⟨k, hk, rfl, hm, hb⟩ := hrel
    by_cases hlt : k < zs.length
    · obtain ⟨b, off, rfl, hbl, hc⟩ := hA.below (hb.mono (Nat.le_refl _)) (by omega)
      have hck := hc k hlt
      obtain ⟨u, hu⟩ := hm.cell hlt
      have hf := hm.frozen
      have hs := hm.step hlt
      have HM := Lib.hid hs
      clear hc hs hA
      go_wp2
      go_roundw
      case rel => exact ⟨k + 1, by omega, by go_num, HM.out, hb.setCell (Nat.le_refl _) _⟩
      case measure => simp [intOf]; omega
    · obtain rfl : k = zs.length := by omega
      obtain ⟨cs, h1, h2, h3⟩ := hm
      go_wp2
      go_ret
      exact ⟨rfl, by rw [← intCells_of h2 h3]; exact h1, hb⟩

theorem eq_of_gi {xs ys : List Int} (hl : xs.length = ys.length) (h : ∀ j, j < xs.length → gi xs j = gi ys j) : xs = ys := by
  apply List.ext_getElem hl
  intro i h1 h2
  have := h i h1
  rwa [gi_eq h1, gi_eq h2] at this

set_option maxHeartbeats 400000 in
theorem eqIntS_calls (A B : Option Addr) (c d : Nat) (xs ys : List Int) (w : World) (hA : Ints w A xs) (hB : Ints w B ys) (hn : xs.length * 8 ≤ 140737488351232) :
    Calls Try.prog 18 #[.slice A xs.length c, .slice B ys.length d] w fun e w' => e = .returned (.bool (decide (xs = ys))) ∧ Draws w w' := by
  by_cases hl : xs.length = ys.length
  · have hne : ((xs.length : Int) != (ys.length : Int)) = false := by simp [hl]
    have hy : ys.length * 8 ≤ 140737488351232 := by omega
    have HL := Lib.hid hl
    clear hl
    go_enter Try.func18, Try.ntmps18
    go_wp2
    clear hne
    go_loopw [5] (fun i wr => ∃ k : Nat, k ≤ xs.length ∧ i = .int .i64 k ∧ (∀ j, j < k → gi xs j = gi ys j) ∧ Draws w wr) (fun i _ => xs.length - (intOf i).toNat)
    case atStart => exact ⟨0, Nat.zero_le _, rfl, fun j hj => absurd hj (by omega), Draws.refl _⟩
    case round =>
      obtain ⟨k, hk, rfl, heq, hd⟩ := hrel
      have HE := Lib.hid heq
      clear heq
      by_cases hlt : k < xs.length
      · obtain ⟨b, off, rfl, hbl, hc⟩ := hA.below hd.below (by omega)
        have hlt' : k < ys.length := by have := HL.out; omega
        obtain ⟨b', off', rfl, hbl', hc'⟩ := hB.below hd.below (by omega)
        have hck := hc k hlt
        have hck' := hc' k hlt'
        clear hc hc' hA hB
        by_cases he : gi xs k = gi ys k
        · have hb1 : (gi xs k != gi ys k) = false := by simp [he]
          have HX := Lib.hid he
          clear he
          go_wp2
          go_quiet (fail)
          go_wp2
          go_roundw
          case rel => exact ⟨k + 1, by omega, by go_num, fun j hj => by
            rcases Nat.lt_or_ge j k with h | h
            · exact HE.out j h
            · obtain rfl : j = k := by omega
              exact HX.out, hd.drewN _⟩
          case measure => simp [intOf]; omega
        · have hb1 : (gi xs k != gi ys k) = true := by simp [he]
          have HX : Hid (decide (xs = ys) = false) := by
            refine decide_eq_false ?_
            intro h
            exact he (by rw [h])
          clear he
          go_wp2
          go_quiet (fail)
          go_wp2
          go_ret
          exact ⟨ret_bool HX.out.symm, hd.drewN _⟩
      · have hfin : Hid (decide (xs = ys) = true) := decide_eq_true (eq_of_gi HL.out fun j hj => HE.out j (by omega))
        go_wp2
        go_ret
        exact ⟨ret_bool hfin.out.symm, hd⟩
  · have hne : ((xs.length : Int) != (ys.length : Int)) = true := by simp; omega
    have HX : Hid (decide (xs = ys) = false) := by
      refine decide_eq_false ?_
      intro h
      exact hl (by rw [h])
    clear hl
    go_enter Try.func18, Try.ntmps18
    go_wp2
    go_ret
    exact ⟨ret_bool HX.out.symm, Draws.refl _⟩
end Go.Proofs.Ythioaialkilbdaa
