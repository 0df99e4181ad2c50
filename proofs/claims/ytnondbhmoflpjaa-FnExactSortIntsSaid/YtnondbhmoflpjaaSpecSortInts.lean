/- Contract of the reference's SortInts: the sorted list in new memory. -/
import Derived.Test.YtnondbhmoflpjaaInfo
import Derived.Test.YtnondbhmoflpjaaRankPlain
namespace Go.Proofs.Ytnondbhmoflpjaa
open Go.RowKit

/-- A block in which the first k numbers stand at their places. -/
def Ranked (w : World) (B : Nat) (t : TypeId) (zs : List Int) (k : Nat) : Prop := ∃ cs : Array Value, Blk w B t cs ∧ cs.size = zs.length ∧ ∀ j, j < k → cs[rank zs j]? = some (.int .i64 (gi zs j))
theorem Ranked.start (w : World) (z : Value) (t : TypeId) (zs : List Int) : Ranked (w.alloc (.cells (madeCells #[z] zs.length) t)) w.heap.size t zs 0 :=
  ⟨_, Blk.new w t _, size_madeCells _ _, fun i hi => absurd hi (by omega)⟩
theorem Ranked.step {w : World} {B k : Nat} {t : TypeId} {zs : List Int} (h : Ranked w B t zs k) (hk : k < zs.length) : Ranked (w.setCell ⟨B, rank zs k, none⟩ (.int .i64 (gi zs k))) B t zs (k + 1) := by
  obtain ⟨cs, hb, hs, hf⟩ := h
  have hr := rank_bound hk
  refine ⟨_, hb.set_ _ _, by simpa using hs, fun i hi => ?_⟩
  by_cases e : rank zs i = rank zs k
  · rw [e, Array.getElem?_setIfInBounds_self_of_lt (by omega)]
    have h1 := sort_rank (zs := zs) (i := i) (by omega)
    have h2 := sort_rank (zs := zs) (i := k) hk
    rw [e] at h1
    rw [← h1, ← h2]
  · rw [Array.getElem?_setIfInBounds_ne (fun h => e h.symm)]
    refine hf i ?_
    rcases Nat.lt_or_ge i k with h1 | h1
    · exact h1
    · exact absurd (by rw [show i = k by omega]) e
theorem Ranked.cell {w : World} {B k : Nat} {t : TypeId} {zs : List Int} (h : Ranked w B t zs k) {p : Nat} (hp : p < zs.length) : (∃ u, w.cell? ⟨B, p, none⟩ = some u) ∧ w.frozen? ⟨B, p, none⟩ = false := by
  obtain ⟨cs, hb, hs, _⟩ := h
  exact ⟨⟨_, (hb.cell p).trans (Array.getElem?_eq_getElem (by omega))⟩, hb.frozen p⟩

set_option maxHeartbeats 1600000 in
theorem specSortInts_calls (A : Option Addr) (c : Nat) (zs : List Int) (w : World) (hA : Ints w A zs) (hn : zs.length * 8 ≤ 140737488351232) :
    Calls Try.prog 15 #[.slice A zs.length c] w fun e w' => e = .returned (.slice (some ⟨w.heap.size, 0, none⟩) zs.length zs.length) ∧ Blk w' w.heap.size 3 (intCells (sortI zs)) ∧ Below w.heap.size w w' := by
  have hmk := run_make_row' (P := Try.prog) 22 3 (.int .i64 0) 8 Try.underlying22 infoInt rfl .i64 .i64 zs.length (by omega) (by omega)
  go_enter Try.func15, Try.ntmps15
  go_wp2
  clear hmk
  go_loopw [14] (fun i wr => ∃ k : Nat, k ≤ zs.length ∧ i = .int .i64 k ∧ Ranked wr w.heap.size 3 zs k ∧ Below w.heap.size w wr) (fun i _ => zs.length - (intOf i).toNat)
  case atStart => exact ⟨0, Nat.zero_le _, rfl, Ranked.start _ _ _ _, (Below.refl _ _).alloc (Nat.le_refl _) _⟩
  case round =>
    obtain ⟨k, hk, rfl, hm, hb⟩ := hrel
    obtain ⟨wo, rfl⟩ : ∃ wo : World, wo = wr := ⟨_, rfl⟩
    by_cases hlt : k < zs.length
    · obtain ⟨b, off, rfl, hbl, hc⟩ := hA.below hb (by omega)
      have hck := hc k hlt
      have HC := Lib.hid hc
      clear hc
      go_wp2
      clear hck
      go_loopw [6, 21] (fun n j wr => ∃ a m : Nat, a ≤ zs.length ∧ m ≤ a ∧ n = .int .i64 m ∧ j = .int .i64 a ∧ m = lessN (zs.take a) (gi zs k) + eqN zs (gi zs k) (min a k) ∧ wo = wr) (fun _ j _ => zs.length - (intOf j).toNat)
      case atStart => exact ⟨0, 0, Nat.zero_le _, Nat.le_refl _, rfl, rfl, by simp [lessN, eqN], rfl⟩
      case round =>
        obtain ⟨a, m, ha, hma, rfl, rfl, hmm, rfl⟩ := hrel
        by_cases hal : a < zs.length
        · have hca := HC.out a hal
          have hL := lessN_step (zs := zs) (v := gi zs k) hal
          have hE := eqN_step (zs := zs) (v := gi zs k) hal
          by_cases h1 : gi zs a < gi zs k
          · have HM := Lib.hid (show m + 1 = lessN (zs.take (a + 1)) (gi zs k) + eqN zs (gi zs k) (min (a + 1) k) by
              rw [hL, if_pos h1, hmm]
              by_cases h2 : a < k
              · rw [Nat.min_eq_left (by omega : a + 1 ≤ k), Nat.min_eq_left (by omega : a ≤ k), hE, if_neg (by omega)]; omega
              · rw [Nat.min_eq_right (by omega : k ≤ a + 1), Nat.min_eq_right (by omega : k ≤ a)]; omega)
            clear hL hE hmm
            go_wp2
            go_roundw
            case rel => exact ⟨a + 1, m + 1, by omega, by omega, by go_num, by go_num, HM.out, trivial⟩
            case measure => simp [intOf]; omega
          · by_cases h2 : gi zs a = gi zs k
            · have hq : (gi zs a == gi zs k) = true := by simp [h2]
              by_cases h3 : a < k
              · have HM := Lib.hid (show m + 1 = lessN (zs.take (a + 1)) (gi zs k) + eqN zs (gi zs k) (min (a + 1) k) by
                  rw [hL, if_neg h1, hmm, Nat.min_eq_left (by omega : a + 1 ≤ k), Nat.min_eq_left (by omega : a ≤ k), hE, if_pos h2]; omega)
                clear hL hE hmm h2
                go_wp2
                go_roundw
                case rel => exact ⟨a + 1, m + 1, by omega, by omega, by go_num, by go_num, HM.out, trivial⟩
                case measure => simp [intOf]; omega
              · have HM := Lib.hid (show m = lessN (zs.take (a + 1)) (gi zs k) + eqN zs (gi zs k) (min (a + 1) k) by
                  rw [hL, if_neg h1, hmm, Nat.min_eq_right (by omega : k ≤ a + 1), Nat.min_eq_right (by omega : k ≤ a)]; omega)
                clear hL hE hmm h2
                go_wp2
                go_roundw
                case rel => exact ⟨a + 1, m, by omega, by omega, rfl, by go_num, HM.out, trivial⟩
                case measure => simp [intOf]; omega
            · have hq : (gi zs a == gi zs k) = false := by simp [h2]
              have HM := Lib.hid (show m = lessN (zs.take (a + 1)) (gi zs k) + eqN zs (gi zs k) (min (a + 1) k) by
                rw [hL, if_neg h1, hmm]
                by_cases h3 : a < k
                · rw [Nat.min_eq_left (by omega : a + 1 ≤ k), Nat.min_eq_left (by omega : a ≤ k), hE, if_neg h2]; omega
                · rw [Nat.min_eq_right (by omega : k ≤ a + 1), Nat.min_eq_right (by omega : k ≤ a)]; omega)
              clear hL hE hmm h2
              go_wp2
              go_roundw
              case rel => exact ⟨a + 1, m, by omega, by omega, rfl, by go_num, HM.out, trivial⟩
              case measure => simp [intOf]; omega
        · have hmr : m = rank zs k := by
            rw [hmm, List.take_of_length_le (by omega), Nat.min_eq_right (by omega : k ≤ a)]
            rfl
          have hrb : m < zs.length := by rw [hmr]; exact rank_bound hlt
          obtain ⟨⟨u, hu⟩, hf⟩ := hm.cell hrb
          have hst := hm.step hlt
          rw [← hmr] at hst
          have HST := Lib.hid hst
          clear hst hmr hmm hm
          go_wp2
          go_roundw
          case rel => exact ⟨k + 1, by omega, by go_num, HST.out, hb.setCell (Nat.le_refl _) _⟩
          case measure => simp [intOf]; omega
    · obtain rfl : k = zs.length := by omega
      obtain ⟨cs, h1, h2, h3⟩ := hm
      go_wp2
      go_ret
      exact ⟨rfl, by rw [← cells_ranked h2 h3]; exact h1, hb⟩
end Go.Proofs.Ytnondbhmoflpjaa
