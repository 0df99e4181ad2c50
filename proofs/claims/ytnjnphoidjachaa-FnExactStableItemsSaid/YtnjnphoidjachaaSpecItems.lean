/- Contracts of the reference's SortWhole and StableItems: the items in order in new memory. -/
import Derived.Test.YtnjnphoidjachaaToItem
import Derived.Test.YtnjnphoidjachaaCmpItems
namespace Go.Proofs.Ytnjnphoidjachaa
open Go.RowKit

theorem gp_some {zs : List (Int × Int)} {i : Nat} (h : i < zs.length) : zs[i]? = some (gk zs i, gt zs i) := by rw [pair_eq h]; simp [h]
/-- The place of item j. -/
def rkP (lt : Int × Int → Int × Int → Bool) (zs : List (Int × Int)) (j : Nat) : Nat := rk lt zs (gk zs j, gt zs j) j
/-- A block in which the first k items stand at their places. -/
def RankedP (lt : Int × Int → Int × Int → Bool) (w : World) (B : Nat) (t : TypeId) (zs : List (Int × Int)) (k : Nat) : Prop :=
  ∃ cs : Array Value, Blk w B t cs ∧ cs.size = zs.length * 2 ∧ ∀ j, j < k → cs[rkP lt zs j * 2]? = some (.int .i64 (gk zs j)) ∧ cs[rkP lt zs j * 2 + 1]? = some (.int .i64 (gt zs j))
section
variable {lt : Int × Int → Int × Int → Bool} {w : World} {B k : Nat} {t : TypeId} {zs ys : List (Int × Int)}
theorem rkP_lt (h : StableOf lt zs ys) (W : Weak lt (· ∈ zs)) {j : Nat} (hj : j < zs.length) : rkP lt zs j < zs.length := h.rk_lt W (gp_some hj)
theorem rkP_at (h : StableOf lt zs ys) (W : Weak lt (· ∈ zs)) {j : Nat} (hj : j < zs.length) : ys[rkP lt zs j]? = some (gk zs j, gt zs j) := h.at_rk W (gp_some hj)
theorem RankedP.start (lt : Int × Int → Int × Int → Bool) (w : World) (z : Array Value) (t : TypeId) (zs : List (Int × Int)) : RankedP lt (w.alloc (.cells (madeCells z (zs.length * 2)) t)) w.heap.size t zs 0 :=
  ⟨_, Blk.new w t _, size_madeCells _ _, fun i hi => absurd hi (by omega)⟩
theorem RankedP.below {w' : World} (h : RankedP lt w B t zs k) (hb : Below w.heap.size w w') : RankedP lt w' B t zs k := by
  obtain ⟨cs, h1, h2, h3⟩ := h
  exact ⟨cs, h1.below hb h1.lt, h2, h3⟩
theorem RankedP.cell (h : RankedP lt w B t zs k) {p : Nat} (hp : p < zs.length) : (∃ u, w.cell? ⟨B, p * 2, none⟩ = some u) ∧ (∃ u, w.cell? ⟨B, p * 2 + 1, none⟩ = some u) ∧ ∀ i, w.frozen? ⟨B, i, none⟩ = false := by
  obtain ⟨cs, hb, hs, _⟩ := h
  exact ⟨⟨_, (hb.cell (p * 2)).trans (Array.getElem?_eq_getElem (by omega))⟩, ⟨_, (hb.cell (p * 2 + 1)).trans (Array.getElem?_eq_getElem (by omega))⟩, hb.frozen⟩
theorem RankedP.step (h : RankedP lt w B t zs k) (hS : StableOf lt zs ys) (W : Weak lt (· ∈ zs)) (hk : k < zs.length) {p : Nat} (hp : p = rkP lt zs k) :
    RankedP lt ((w.setCell ⟨B, p * 2, none⟩ (.int .i64 (gk zs k))).setCell ⟨B, p * 2 + 1, none⟩ (.int .i64 (gt zs k))) B t zs (k + 1) := by
  subst hp
  obtain ⟨cs, hb, hs, hf⟩ := h
  have hr := rkP_lt hS W hk
  refine ⟨_, (hb.set_ (rkP lt zs k * 2) _).set_ (rkP lt zs k * 2 + 1) _, by simpa using hs, fun i hi => ?_⟩
  by_cases e : rkP lt zs i = rkP lt zs k
  · have h1 := rkP_at hS W (j := i) (by omega)
    have h2 := rkP_at hS W (j := k) hk
    rw [e, h2] at h1
    have h3 := Option.some.inj h1
    simp only [Prod.mk.injEq] at h3
    rw [e, ← h3.1, ← h3.2]
    refine ⟨?_, ?_⟩
    · rw [Array.getElem?_setIfInBounds_ne (by omega), Array.getElem?_setIfInBounds_self_of_lt (by omega)]
    · rw [Array.getElem?_setIfInBounds_self_of_lt (by simp; omega)]
  · have hik : i < k := by
      rcases Nat.lt_or_ge i k with h1 | h1
      · exact h1
      · exact absurd (by rw [show i = k by omega]) e
    rw [Array.getElem?_setIfInBounds_ne (by omega), Array.getElem?_setIfInBounds_ne (by omega), Array.getElem?_setIfInBounds_ne (by omega), Array.getElem?_setIfInBounds_ne (by omega)]
    exact hf i hik
theorem RankedP.done (h : RankedP lt w B t zs zs.length) (hS : StableOf lt zs ys) (W : Weak lt (· ∈ zs)) : Blk w B t (itemCells ys) := by
  obtain ⟨cs, hb, hs, hf⟩ := h
  have hl := hS.perm.length_eq
  rw [← itemCells_of (cs := cs) (by rw [hl]; exact hs) (fun p hp => ?_)]
  · exact hb
  · have := hS.ranked W (f := fun p => (cs[p * 2]?, cs[p * 2 + 1]?)) (g := fun v => (some (.int .i64 v.1), some (.int .i64 v.2))) (fun j v hj => ?_) (gp_some hp)
    · simp only [Prod.mk.injEq] at this
      exact this
    · have hjl : j < zs.length := (List.getElem?_eq_some_iff.1 hj).1
      rw [gp_some hjl] at hj
      rw [← Option.some.inj hj]
      have := hf j hjl
      exact Prod.ext this.1 this.2
end
end Go.Proofs.Ytnjnphoidjachaa
