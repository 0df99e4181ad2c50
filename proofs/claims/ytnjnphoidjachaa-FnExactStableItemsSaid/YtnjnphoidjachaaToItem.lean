/- Contracts of toItem and toItemS: items in new memory. -/
import Derived.Test.YtnjnphoidjachaaInfoItem
import Derived.Test.YtnjnphoidjachaaItems
namespace Go.Proofs.Ytnjnphoidjachaa
open Go.RowKit

theorem toItem_calls (k t : Int) (w : World) :
    Calls Try.prog 39 #[.agg #[.int .i64 k, .int .i64 t]] w fun e w' => e = .returned (.agg #[.int .i64 k, .int .i64 t]) ∧ Below w.heap.size w w' := by
  go_enter Try.func39, Try.ntmps39
  go_wp2
  refine bodyPost_ret (v := .agg #[.int .i64 k, .int .i64 t]) (by simp [results, Try.results39, go_sem]) rfl ⟨rfl, ?_⟩
  exact (((Below.refl _ _).alloc (Nat.le_refl _) _).alloc (by simp) _).alloc (by simp; omega) _

theorem run_make_items (n : Nat) (hn : n * 16 ≤ 140737488351232) (w : World) :
    (Instr.makeSlice 23 (.int .i64 (n : Int)) (.int .i64 (n : Int))).run Try.prog w = .ok (.slice (some ⟨w.heap.size, 0, none⟩) n n) (w.alloc (.cells (madeCells #[.int .i64 0, .int .i64 0] (n * 2)) 41)) := by
  obtain ⟨i, hi, hz0, hz1, hz2⟩ := info_parts infoItem
  have hb : (i.bytes : Int) * (n : Int) ≤ 281474976710656 := by rw [hz2]; omega
  have hr := run_make (P := Try.prog) w 23 41 i _ Try.underlying23 hi hz0 .i64 .i64 n n (by omega) (Int.le_refl _) hb (by omega)
  simp only [Int.toNat_natCast, hz1] at hr
  exact hr

/-- A block of n items of which the first k have been filled. -/
def MadeP (w : World) (B : Nat) (t : TypeId) (n k : Nat) (xs : List (Int × Int)) : Prop := ∃ cs : Array Value, Blk w B t cs ∧ cs.size = n * 2 ∧ ∀ i, i < k → cs[i * 2]? = some (.int .i64 (gk xs i)) ∧ cs[i * 2 + 1]? = some (.int .i64 (gt xs i))
theorem MadeP.cell {w : World} {B n k : Nat} {t : TypeId} {xs : List (Int × Int)} (h : MadeP w B t n k xs) (hk : k < n) : (∃ u, w.cell? ⟨B, k * 2, none⟩ = some u) ∧ ∃ u, w.cell? ⟨B, k * 2 + 1, none⟩ = some u := by
  obtain ⟨cs, hb, hs, _⟩ := h
  exact ⟨⟨_, (hb.cell (k * 2)).trans (Array.getElem?_eq_getElem (by omega))⟩, ⟨_, (hb.cell (k * 2 + 1)).trans (Array.getElem?_eq_getElem (by omega))⟩⟩
theorem MadeP.frozen {w : World} {B n k : Nat} {t : TypeId} {xs : List (Int × Int)} (h : MadeP w B t n k xs) (i : Nat) : w.frozen? ⟨B, i, none⟩ = false := by
  obtain ⟨cs, hb, hs, _⟩ := h
  exact hb.frozen i
theorem MadeP.below {w w' : World} {B n k : Nat} {t : TypeId} {xs : List (Int × Int)} (h : MadeP w B t n k xs) (hb : Below w.heap.size w w') : MadeP w' B t n k xs := by
  obtain ⟨cs, h1, h2, h3⟩ := h
  exact ⟨cs, h1.below hb h1.lt, h2, h3⟩
theorem MadeP.lt {w : World} {B n k : Nat} {t : TypeId} {xs : List (Int × Int)} (h : MadeP w B t n k xs) : B < w.heap.size := by
  obtain ⟨cs, h1, _⟩ := h
  exact h1.lt
theorem MadeP.step {w : World} {B n k : Nat} {t : TypeId} {xs : List (Int × Int)} (h : MadeP w B t n k xs) (hk : k < n) :
    MadeP ((w.setCell ⟨B, k * 2, none⟩ (.int .i64 (gk xs k))).setCell ⟨B, k * 2 + 1, none⟩ (.int .i64 (gt xs k))) B t n (k + 1) xs := by
  obtain ⟨cs, hb, hs, hf⟩ := h
  refine ⟨_, (hb.set_ (k * 2) _).set_ (k * 2 + 1) _, by simpa using hs, fun i hi => ?_⟩
  rcases Nat.lt_or_ge i k with h1 | h1
  · rw [Array.getElem?_setIfInBounds_ne (by omega), Array.getElem?_setIfInBounds_ne (by omega), Array.getElem?_setIfInBounds_ne (by omega), Array.getElem?_setIfInBounds_ne (by omega)]
    exact hf i h1
  · obtain rfl : i = k := by omega
    refine ⟨?_, ?_⟩
    · rw [Array.getElem?_setIfInBounds_ne (by omega), Array.getElem?_setIfInBounds_self_of_lt (by omega)]
    · rw [Array.getElem?_setIfInBounds_self_of_lt (by simp; omega)]
theorem MadeP.start (w : World) (n : Nat) (z : Array Value) (t : TypeId) (xs : List (Int × Int)) : MadeP (w.alloc (.cells (madeCells z (n * 2)) t)) w.heap.size t n 0 xs :=
  ⟨_, Blk.new w t _, size_madeCells _ _, fun i hi => absurd hi (by omega)⟩

set_option maxHeartbeats 800000 in
theorem toItemS_calls (A : Option Addr) (c : Nat) (zs : List (Int × Int)) (w : World) (hA : Items w A zs) (hn : zs.length * 16 ≤ 140737488351232) :
    Calls Try.prog 21 #[.slice A zs.length c] w fun e w' => e = .returned (.slice (some ⟨w.heap.size, 0, none⟩) zs.length zs.length) ∧ Blk w' w.heap.size 41 (itemCells zs) ∧ Below w.heap.size w w' := by
  have hmk := run_make_items zs.length hn
  go_enter Try.func21, Try.ntmps21
  go_wp2
  clear hmk
  go_loopw [4] (fun i wr => ∃ k : Nat, k ≤ zs.length ∧ i = .int .i64 k ∧ MadeP wr w.heap.size 41 zs.length k zs ∧ Below w.heap.size w wr) (fun i _ => zs.length - (intOf i).toNat)
  case atStart => exact ⟨0, Nat.zero_le _, rfl, MadeP.start _ _ _ _ _, (Below.refl _ _).alloc (Nat.le_refl _) _⟩
  case round =>
    obtain ⟨k, hk, rfl, hm, hb⟩ := hrel
    by_cases hlt : k < zs.length
    · obtain ⟨b, off, rfl, hbl, hc⟩ := hA.below hb (by omega)
      have hck := (hc k hlt).1
      have hck' := (hc k hlt).2
      clear hc hA
      go_wp2_with fail
      refine (toItem_calls _ _ _).mono ?_
      rintro e w1 ⟨rfl, hb1⟩
      have hm1 := hm.below hb1
      obtain ⟨⟨u, hu⟩, ⟨u', hu'⟩⟩ := hm1.cell hlt
      have hu2 := World.cell?_setCell_other w1 ⟨w.heap.size, k * 2, none⟩ ⟨w.heap.size, k * 2 + 1, none⟩ (.int .i64 (gk zs k)) (by intro e; simp only [Addr.mk.injEq] at e; omega)
      have hf := hm1.frozen (k * 2)
      have hf' := hm1.frozen (k * 2 + 1)
      have HM := Lib.hid (hm1.step hlt)
      have hb2 := hb.trans (hb1.mono hb.size)
      clear hck hck' hm hm1
      go_wp2
      go_roundw
      case rel => exact ⟨k + 1, by omega, by go_num, HM.out, (hb2.setCell (Nat.le_refl _) _).setCell (Nat.le_refl _) _⟩
      case measure => simp [intOf]; omega
    · obtain rfl : k = zs.length := by omega
      obtain ⟨cs, h1, h2, h3⟩ := hm
      go_wp2
      go_ret
      exact ⟨rfl, by rw [← itemCells_of h2 h3]; exact h1, hb⟩
end Go.Proofs.Ytnjnphoidjachaa
