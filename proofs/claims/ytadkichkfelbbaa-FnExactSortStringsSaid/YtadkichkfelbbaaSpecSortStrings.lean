/- Contract of the reference's SortStrings: the sorted list in new memory. -/
import Derived.Test.YtadkichkfelbbaaInfo
import Derived.Test.YtadkichkfelbbaaSortStrPlain
import Derived.Test.YtadkichkfelbbaaSpecEarlier
namespace Go.Proofs.Ytadkichkfelbbaa
open Go.RowKit

theorem gs_some {zs : List ByteArray} {i : Nat} (h : i < zs.length) : zs[i]? = some (gs zs i) := by simp [gs, h]
/-- The place of string j. -/
def rkS (zs : List ByteArray) (j : Nat) : Nat := rk sl zs (gs zs j) j
theorem rkS_at {zs : List ByteArray} {j : Nat} (h : j < zs.length) : (sortS zs)[rkS zs j]? = some (gs zs j) := (stable_sortS zs).at_rk (weak_sl _) (gs_some h)
theorem rkS_lt {zs : List ByteArray} {j : Nat} (h : j < zs.length) : rkS zs j < zs.length := (stable_sortS zs).rk_lt (weak_sl _) (gs_some h)
/-- A block in which the first k strings stand at their places. -/
def RankedS (w : World) (B : Nat) (t : TypeId) (zs : List ByteArray) (k : Nat) : Prop := ∃ cs : Array Value, Blk w B t cs ∧ cs.size = zs.length ∧ ∀ j, j < k → cs[rkS zs j]? = some (.string (gs zs j))
theorem RankedS.start (w : World) (z : Value) (t : TypeId) (zs : List ByteArray) : RankedS (w.alloc (.cells (madeCells #[z] zs.length) t)) w.heap.size t zs 0 :=
  ⟨_, Blk.new w t _, size_madeCells _ _, fun i hi => absurd hi (by omega)⟩
theorem RankedS.step {w : World} {B k : Nat} {t : TypeId} {zs : List ByteArray} (h : RankedS w B t zs k) (hk : k < zs.length) : RankedS (w.setCell ⟨B, rkS zs k, none⟩ (.string (gs zs k))) B t zs (k + 1) := by
  obtain ⟨cs, hb, hs, hf⟩ := h
  have hr := rkS_lt hk
  refine ⟨_, hb.set_ _ _, by simpa using hs, fun i hi => ?_⟩
  by_cases e : rkS zs i = rkS zs k
  · rw [e, Array.getElem?_setIfInBounds_self_of_lt (by omega)]
    have h1 := rkS_at (zs := zs) (j := i) (by omega)
    have h2 := rkS_at (zs := zs) (j := k) hk
    rw [e, h2] at h1
    rw [Option.some.inj h1]
  · rw [Array.getElem?_setIfInBounds_ne (fun h => e h.symm)]
    refine hf i ?_
    rcases Nat.lt_or_ge i k with h1 | h1
    · exact h1
    · exact absurd (by rw [show i = k by omega]) e
theorem RankedS.cell {w : World} {B k : Nat} {t : TypeId} {zs : List ByteArray} (h : RankedS w B t zs k) {p : Nat} (hp : p < zs.length) : (∃ u, w.cell? ⟨B, p, none⟩ = some u) ∧ w.frozen? ⟨B, p, none⟩ = false := by
  obtain ⟨cs, hb, hs, _⟩ := h
  exact ⟨⟨_, (hb.cell p).trans (Array.getElem?_eq_getElem (by omega))⟩, hb.frozen p⟩
theorem RankedS.below {w w' : World} {B k : Nat} {t : TypeId} {zs : List ByteArray} (h : RankedS w B t zs k) (hb : Draws w w') : RankedS w' B t zs k := by
  obtain ⟨cs, h1, h2⟩ := h
  obtain ⟨n, rfl⟩ := hb
  exact ⟨cs, h1, h2⟩
theorem RankedS.done {w : World} {B : Nat} {t : TypeId} {zs : List ByteArray} (h : RankedS w B t zs zs.length) : Blk w B t (strCells (sortS zs)) := by
  obtain ⟨cs, hb, hs, hf⟩ := h
  rw [← strCells_of (cs := cs) (by rw [length_sortS]; exact hs) (fun p hp => ?_)]
  · exact hb
  · refine (stable_sortS zs).ranked (weak_sl _) (f := fun p => cs[p]?) (g := fun v => some (.string v)) (fun j v hj => ?_) (gs_some hp)
    have hl : j < zs.length := (List.getElem?_eq_some_iff.1 hj).1
    rw [gs_some hl] at hj
    rw [← Option.some.inj hj]
    exact hf j hl

set_option maxHeartbeats 1600000 in
theorem specSortStrings_calls (A : Option Addr) (c : Nat) (zs : List ByteArray) (w : World) (hA : Strs w A zs) (hn : zs.length * 16 ≤ 140737488351232) (hmx : ∀ s ∈ zs, s.size ≤ maxLen) :
    Calls Try.prog 9 #[.slice A zs.length c] w fun e w' => e = .returned (.slice (some ⟨w.heap.size, 0, none⟩) zs.length zs.length) ∧ Blk w' w.heap.size 9 (strCells (sortS zs)) ∧ Below w.heap.size w w' := by
  have hmk := run_make_row' (P := Try.prog) 22 9 (.string ByteArray.empty) 16 Try.underlying22 infoStr rfl .i64 .i64 zs.length (by omega) (by omega)
  have HMX := Lib.hid hmx
  clear hmx
  go_enter Try.func9, Try.ntmps9
  go_wp2
  clear hmk
  go_loopw [14] (fun i wr => ∃ k : Nat, k ≤ zs.length ∧ i = .int .i64 k ∧ RankedS wr w.heap.size 9 zs k ∧ Below w.heap.size w wr) (fun i _ => zs.length - (intOf i).toNat)
  case atStart => exact ⟨0, Nat.zero_le _, rfl, RankedS.start _ _ _ _, (Below.refl _ _).alloc (Nat.le_refl _) _⟩
  case round =>
    obtain ⟨k, hk, rfl, hm, hb⟩ := hrel
    obtain ⟨wo, rfl⟩ : ∃ wo : World, wo = wr := ⟨_, rfl⟩
    by_cases hlt : k < zs.length
    · obtain ⟨b, off, rfl, hbl, hc⟩ := hA.below hb (by omega)
      have hck := hc k hlt
      have HC := Lib.hid hc
      clear hc
      go_wp2
      clear hck
      go_loopw [6, 21] (fun n j wr => ∃ a m : Nat, a ≤ zs.length ∧ m ≤ a ∧ n = .int .i64 m ∧ j = .int .i64 a ∧ m = cntG sl zs (gs zs k) k a ∧ Draws wo wr) (fun _ j _ => zs.length - (intOf j).toNat)
      case atStart => exact ⟨0, 0, Nat.zero_le _, Nat.le_refl _, rfl, rfl, (cntG_zero _ _ _ _).symm, Draws.refl _⟩
      case round =>
        obtain ⟨a, m, ha, hma, rfl, rfl, hmm, hd⟩ := hrel
        by_cases hal : a < zs.length
        · have hca := (hd.below (B := wo.heap.size)).cell (p := ⟨b, off + a, none⟩) hbl
          rw [HC.out a hal] at hca
          have hst := cntG_step sl (gs zs k) k (gs_some hal)
          rw [← hmm] at hst
          clear hmm
          by_cases h1 : sl (gs zs a) (gs zs k) = true
          · have HM := Lib.hid (show m + 1 = cntG sl zs (gs zs k) k (a + 1) by rw [hst, if_pos (.inl h1)])
            have H1 := Lib.hid h1
            clear hst h1
            go_wp2_with fail
            refine (specEarlier_t _ _ _ (HMX.out _ (gs_mem hal)) (HMX.out _ (gs_mem hlt)) H1.out).mono ?_
            rintro e w3 ⟨rfl, hd3⟩
            go_wp2
            go_roundw
            case rel => exact ⟨a + 1, m + 1, by omega, by omega, by go_num, by go_num, HM.out, hd.trans hd3⟩
            case measure => simp [intOf]; omega
          · have h1' : sl (gs zs a) (gs zs k) = false := Bool.eq_false_iff.2 h1
            have H1 := Lib.hid h1'
            by_cases h2 : gs zs a = gs zs k
            · have hq : ((gs zs a).toList == (gs zs k).toList) = true := by rw [str_eq_iff]; simp [h2]
              by_cases h3 : a < k
              · have HM := Lib.hid (show m + 1 = cntG sl zs (gs zs k) k (a + 1) by rw [hst, if_pos (.inr ⟨by rw [h2]; exact sl_irrefl _, h3⟩)])
                clear hst h2 h1 h1'
                go_wp2_with fail
                refine (specEarlier_f _ _ _ (HMX.out _ (gs_mem hal)) (HMX.out _ (gs_mem hlt)) H1.out).mono ?_
                rintro e w3 ⟨rfl, hd3⟩
                go_wp2
                go_roundw
                case rel => exact ⟨a + 1, m + 1, by omega, by omega, by go_num, by go_num, HM.out, hd.trans hd3⟩
                case measure => simp [intOf]; omega
              · have HM := Lib.hid (show m = cntG sl zs (gs zs k) k (a + 1) by rw [hst, if_neg (by rintro (h | h); exact h1 h; exact h3 h.2)]; rfl)
                clear hst h2 h1 h1'
                go_wp2_with fail
                refine (specEarlier_f _ _ _ (HMX.out _ (gs_mem hal)) (HMX.out _ (gs_mem hlt)) H1.out).mono ?_
                rintro e w3 ⟨rfl, hd3⟩
                go_wp2
                go_roundw
                case rel => exact ⟨a + 1, m, by omega, by omega, rfl, by go_num, HM.out, hd.trans hd3⟩
                case measure => simp [intOf]; omega
            · have hq : ((gs zs a).toList == (gs zs k).toList) = false := by rw [str_eq_iff]; simp [h2]
              have HM := Lib.hid (show m = cntG sl zs (gs zs k) k (a + 1) by
                rw [hst, if_neg (by rintro (h | h); exact h1 h; exact h2 (sl_tri h1' h.1))]; rfl)
              clear hst h2 h1 h1'
              go_wp2_with fail
              refine (specEarlier_f _ _ _ (HMX.out _ (gs_mem hal)) (HMX.out _ (gs_mem hlt)) H1.out).mono ?_
              rintro e w3 ⟨rfl, hd3⟩
              go_wp2
              go_roundw
              case rel => exact ⟨a + 1, m, by omega, by omega, rfl, by go_num, HM.out, hd.trans hd3⟩
              case measure => simp [intOf]; omega
        · obtain rfl : a = zs.length := by omega
          have hmr : m = rkS zs k := by rw [hmm]; exact cntG_done sl zs (gs zs k) (by omega)
          have hrb : m < zs.length := by rw [hmr]; exact rkS_lt hlt
          have hm2 := hm.below hd
          obtain ⟨⟨u, hu⟩, hf⟩ := hm2.cell hrb
          have hst := hm2.step hlt
          rw [← hmr] at hst
          have HST := Lib.hid hst
          have hb2 := hb.trans (hd.below (B := w.heap.size))
          clear hst hmr hmm hm hm2
          go_wp2
          go_roundw
          case rel => exact ⟨k + 1, by omega, by go_num, HST.out, hb2.setCell (Nat.le_refl _) _⟩
          case measure => simp [intOf]; omega
    · obtain rfl : k = zs.length := by omega
      have hdn := hm.done
      go_wp2
      go_ret
      exact ⟨rfl, hdn, hb⟩
end Go.Proofs.Ytadkichkfelbbaa
