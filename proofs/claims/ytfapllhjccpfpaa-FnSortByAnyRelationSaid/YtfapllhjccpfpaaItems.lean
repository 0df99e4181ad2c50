/- Words on slices of structs of two ints: items. No program in sight. -/
import Derived.Test.YtfapllhjccpfpaaPlain
namespace Go.Proofs.Ytfapllhjccpfpaa
open Go.RowKit

/-- Element i's key and tag, behind names that the walk does not open. -/
def gk (xs : List (Int × Int)) (i : Nat) : Int := (xs.getD i (0, 0)).1
def gt (xs : List (Int × Int)) (i : Nat) : Int := (xs.getD i (0, 0)).2
theorem gk_eq {xs : List (Int × Int)} {i : Nat} (h : i < xs.length) : gk xs i = xs[i].1 := by simp [gk, h]
theorem gt_eq {xs : List (Int × Int)} {i : Nat} (h : i < xs.length) : gt xs i = xs[i].2 := by simp [gt, h]
theorem pair_eq {xs : List (Int × Int)} {i : Nat} (h : i < xs.length) : (gk xs i, gt xs i) = xs[i] := by rw [gk_eq h, gt_eq h]
/-- The keys. -/
def keys (xs : List (Int × Int)) : List Int := xs.map (·.1)
theorem length_keys (xs : List (Int × Int)) : (keys xs).length = xs.length := by simp [keys]
theorem gi_keys {xs : List (Int × Int)} {i : Nat} (h : i < xs.length) : gi (keys xs) i = gk xs i := by
  rw [gi_eq (by rw [length_keys]; exact h), gk_eq h]
  simp [keys]
theorem eq_of_pairs {xs ys : List (Int × Int)} (hl : xs.length = ys.length) (h : ∀ j, j < xs.length → gk xs j = gk ys j ∧ gt xs j = gt ys j) : xs = ys := by
  apply List.ext_getElem hl
  intro i h1 h2
  have := h i h1
  rw [← pair_eq h1, ← pair_eq h2, this.1, this.2]

/-- A slice of items that reads as xs: two cells an element. -/
def Items (w : World) (A : Option Addr) (xs : List (Int × Int)) : Prop :=
  0 < xs.length → ∃ b off, A = some ⟨b, off, none⟩ ∧ b < w.heap.size ∧ ∀ i, i < xs.length → w.cell? ⟨b, off + i * 2, none⟩ = some (.int .i64 (gk xs i)) ∧ w.cell? ⟨b, off + i * 2 + 1, none⟩ = some (.int .i64 (gt xs i))
theorem Items.below {w w' : World} {A : Option Addr} {xs : List (Int × Int)} (h : Items w A xs) (hb : Below w.heap.size w w') : Items w' A xs := fun hn => by
  obtain ⟨b, off, e, hlt, hc⟩ := h hn
  exact ⟨b, off, e, Nat.lt_of_lt_of_le hlt hb.size, fun i hi => ⟨(hb.cell (p := ⟨b, off + i * 2, none⟩) hlt).trans (hc i hi).1, (hb.cell (p := ⟨b, off + i * 2 + 1, none⟩) hlt).trans (hc i hi).2⟩⟩
/-- The cells of a list of items. -/
def itemCells (xs : List (Int × Int)) : Array Value := (xs.flatMap fun p => [Value.int .i64 p.1, Value.int .i64 p.2]).toArray
theorem itemCells_at (xs : List (Int × Int)) {i : Nat} (h : i < xs.length) : (itemCells xs)[i * 2]? = some (.int .i64 (gk xs i)) ∧ (itemCells xs)[i * 2 + 1]? = some (.int .i64 (gt xs i)) := by
  unfold itemCells
  simp only [List.getElem?_toArray]
  induction xs generalizing i with
  | nil => simp at h
  | cons a xs ih =>
    match i with
    | 0 => simp [gk, gt]
    | i + 1 =>
      have := ih (i := i) (by simpa using h)
      have e1 : (i + 1) * 2 = i * 2 + 1 + 1 := by omega
      rw [e1]
      simpa [gk, gt] using this
theorem size_itemCells (xs : List (Int × Int)) : (itemCells xs).size = xs.length * 2 := by
  unfold itemCells
  simp only [List.size_toArray]
  induction xs with
  | nil => rfl
  | cons a xs ih => simp only [List.flatMap_cons, List.length_append, List.length_cons, List.length_nil, ih]; omega
theorem Blk.items {w : World} {g : Nat} {t : TypeId} {xs : List (Int × Int)} (h : Blk w g t (itemCells xs)) : Items w (some ⟨g, 0, none⟩) xs :=
  fun _ => ⟨g, 0, rfl, h.lt, fun i hi => by
    have := itemCells_at xs hi
    refine ⟨?_, ?_⟩
    · rw [Nat.zero_add, h.cell]; exact this.1
    · rw [Nat.zero_add, h.cell]; exact this.2⟩
theorem itemCells_of {cs : Array Value} {xs : List (Int × Int)} (hn : cs.size = xs.length * 2) (h : ∀ i, i < xs.length → cs[i * 2]? = some (.int .i64 (gk xs i)) ∧ cs[i * 2 + 1]? = some (.int .i64 (gt xs i))) : cs = itemCells xs := by
  apply Array.ext_getElem?
  intro i
  by_cases hi : i < xs.length * 2
  · have h2 := h (i / 2) (by omega)
    have h3 := itemCells_at xs (i := i / 2) (by omega)
    rcases Nat.mod_two_eq_zero_or_one i with h0 | h0
    · have e : i = i / 2 * 2 := by omega
      rw [e, h2.1, h3.1]
    · have e : i = i / 2 * 2 + 1 := by omega
      rw [e, h2.2, h3.2]
  · rw [Array.getElem?_eq_none (by omega), Array.getElem?_eq_none (by rw [size_itemCells]; omega)]
theorem Blk.new' {w : World} {g : Nat} {t : TypeId} {cs : Array Value} (h : w.heap.size = g) : Blk (w.alloc (.cells cs t)) g t cs := by subst h; exact Blk.new w t cs
theorem Blk.pair {w : World} {g : Nat} {t : TypeId} {a b : Value} (h : Blk w g t #[a, b]) : w.cell? ⟨g, 0, none⟩ = some a ∧ w.cell? ⟨g, 1, none⟩ = some b := ⟨h.cell 0, h.cell 1⟩
theorem Blk.setPair {w : World} {g : Nat} {t : TypeId} {a b : Value} (h : Blk w g t #[a, b]) (x y : Value) : Blk ((w.setCell ⟨g, 0, none⟩ x).setCell ⟨g, 1, none⟩ y) g t #[x, y] := (h.set_ 0 x).set_ 1 y
theorem cell_setOther (w : World) (g : Nat) (x : Value) : (w.setCell ⟨g, 0, none⟩ x).cell? ⟨g, 1, none⟩ = w.cell? ⟨g, 1, none⟩ :=
  World.cell?_setCell_other w ⟨g, 0, none⟩ ⟨g, 1, none⟩ x (by intro e; simp only [Addr.mk.injEq] at e; omega)

end Go.Proofs.Ytfapllhjccpfpaa
