/- Plain lemmas: the steps of the library's quicksort permute the row, whatever the relation is. No program in sight. -/
import Derived.Sort.LotA
import Derived.Sort.LotB
import Derived.Sort.LotC
import Derived.Sort.LotD1
namespace Go.Proofs.Ytfapllhjccpfpaa
open Go.Sort
section
variable {α : Type}
/-- The whole row permuted. -/
def PermA (d d' : Array α) : Prop := d'.toList.Perm d.toList
theorem PermA.size {d d' : Array α} (h : PermA d d') : d'.size = d.size := by simpa using h.length_eq
theorem PermA.refl (d : Array α) : PermA d d := List.Perm.refl _
theorem PermA.trans {a b c : Array α} (h : PermA a b) (k : PermA b c) : PermA a c := List.Perm.trans k h
end
section
variable {α : Type} [Inhabited α]
theorem PermA.of_in {d d' : Array α} {a b : Nat} (hb : b ≤ d.size) (h : PermIn a b d d') : PermA d d' := by
  have h1 := permIn_mono d d' a b 0 d.size (Nat.zero_le _) hb (Nat.le_refl _) h
  have h3 := h1.2.2
  rw [Array.extract_size] at h3
  have : d'.extract 0 d.size = d' := by rw [← h1.1]; exact Array.extract_size
  rwa [this] at h3
theorem PermA.swp (d : Array α) {i j : Nat} (hi : i < d.size) (hj : j < d.size) : PermA d (swp d i j) :=
  .of_in (Nat.le_refl _) (swp_permIn d 0 d.size i j (Nat.zero_le _) hi (Nat.zero_le _) hj (Nat.le_refl _))

theorem siftDown_perm (lt : α → α → Bool) (hi first : Nat) : ∀ (n root : Nat) (d : Array α), hi - root ≤ n → first + hi ≤ d.size → PermA d (siftDown lt hi first root d)
  | 0, root, d, hn, _ => by
    rw [siftDown, dif_pos (by omega)]
    exact .refl d
  | n + 1, root, d, hn, hs => by
    rw [siftDown]
    by_cases h1 : 2 * root + 1 ≥ hi
    · rw [dif_pos h1]; exact .refl d
    · rw [dif_neg h1]
      split
      · split
        · exact .refl d
        · split
          · refine (PermA.swp d (by omega) (by omega)).trans (siftDown_perm lt hi first n _ _ (by omega) ?_)
            rw [size_swp]; exact hs
          · exact .refl d
      · split
        · exact .refl d
        · refine (PermA.swp d (by omega) (by omega)).trans (siftDown_perm lt hi first n _ _ (by omega) ?_)
          rw [size_swp]; exact hs
theorem heapBuild_perm (lt : α → α → Bool) (hi first : Nat) : ∀ (k : Nat) (d : Array α), first + hi ≤ d.size → PermA d (heapBuild lt hi first k d)
  | 0, d, _ => .refl d
  | k + 1, d, hs => by
    rw [heapBuild]
    have h1 := siftDown_perm lt hi first (hi - k) k d (Nat.le_refl _) hs
    exact h1.trans (heapBuild_perm lt hi first k _ (by rw [h1.size]; exact hs))
theorem heapPop_perm (lt : α → α → Bool) (first : Nat) : ∀ (k : Nat) (d : Array α), first + k ≤ d.size → PermA d (heapPop lt first k d)
  | 0, d, _ => .refl d
  | k + 1, d, hs => by
    rw [heapPop]
    have h0 := PermA.swp d (i := first) (j := first + k) (by omega) (by omega)
    have h1 := siftDown_perm lt k first k 0 (swp d first (first + k)) (by omega) (by rw [h0.size]; omega)
    exact (h0.trans h1).trans (heapPop_perm lt first k _ (by rw [(h0.trans h1).size]; omega))
theorem heapSort_perm (lt : α → α → Bool) (d : Array α) {a b : Nat} (hab : a ≤ b) (hb : b ≤ d.size) : PermA d (heapSort lt d a b) := by
  unfold heapSort
  have h1 := heapBuild_perm lt (b - a) a ((b - a - 1) / 2 + 1) d (by omega)
  exact h1.trans (heapPop_perm lt a (b - a) _ (by rw [h1.size]; omega))
theorem insInner_perm (lt : α → α → Bool) (a : Nat) : ∀ (j : Nat) (d : Array α), j < d.size → PermA d (insInner lt a j d)
  | 0, d, _ => by rw [insInner]; exact .refl d
  | j + 1, d, hj => by
    rw [insInner]
    split
    · have h0 := PermA.swp d (i := j + 1) (j := j) hj (by omega)
      exact h0.trans (insInner_perm lt a j _ (by rw [h0.size]; omega))
    · exact .refl d
theorem insOuter_perm (lt : α → α → Bool) (a b : Nat) : ∀ (n i : Nat) (d : Array α), b - i ≤ n → b ≤ d.size → PermA d (insOuter lt a b i d)
  | 0, i, d, hn, _ => by rw [insOuter, if_neg (by omega)]; exact .refl d
  | n + 1, i, d, hn, hb => by
    rw [insOuter]
    by_cases h : i < b
    · rw [if_pos h]
      have h0 := insInner_perm lt a i d (by omega)
      exact h0.trans (insOuter_perm lt a b n _ _ (by omega) (by rw [h0.size]; exact hb))
    · rw [if_neg h]; exact .refl d
theorem insertionSort_perm (lt : α → α → Bool) (d : Array α) (a : Nat) {b : Nat} (hb : b ≤ d.size) : PermA d (insertionSort lt d a b) := insOuter_perm lt a b _ _ d (Nat.le_refl _) hb
theorem shiftDown_perm (lt : α → α → Bool) : ∀ (j : Nat) (d : Array α), j < d.size → PermA d (shiftDown lt j d)
  | 0, d, _ => by rw [shiftDown]; exact .refl d
  | j + 1, d, hj => by
    rw [shiftDown]
    split
    · exact .refl d
    · have h0 := PermA.swp d (i := j + 1) (j := j) hj (by omega)
      exact h0.trans (shiftDown_perm lt j _ (by rw [h0.size]; omega))
theorem shiftUp_perm (lt : α → α → Bool) (b : Nat) : ∀ (n j : Nat) (d : Array α), b - j ≤ n → b ≤ d.size → PermA d (shiftUp lt b j d)
  | 0, j, d, hn, _ => by rw [shiftUp, if_neg (by omega)]; exact .refl d
  | n + 1, j, d, hn, hb => by
    rw [shiftUp]
    by_cases h : j < b
    · rw [if_pos h]
      split
      · exact .refl d
      · have h0 := PermA.swp d (i := j) (j := j - 1) (by omega) (by omega)
        exact h0.trans (shiftUp_perm lt b n _ _ (by omega) (by rw [h0.size]; exact hb))
    · rw [if_neg h]; exact .refl d
theorem scanSorted_le (lt : α → α → Bool) (d : Array α) (b : Nat) : ∀ (n i : Nat), b - i ≤ n → i ≤ b → scanSorted lt d b i ≤ b
  | 0, i, hn, hi => by
    rw [scanSorted]
    split
    · rename_i h; simp at h; omega
    · exact hi
  | n + 1, i, hn, hi => by
    rw [scanSorted]
    split
    · rename_i h
      simp at h
      exact scanSorted_le lt d b n _ (by omega) (by omega)
    · exact hi
theorem partialIns_perm (lt : α → α → Bool) (a b : Nat) : ∀ (s i : Nat) (d : Array α), i ≤ b → b ≤ d.size → PermA d (partialIns lt a b s i d).1
  | 0, i, d, _, _ => by rw [partialIns]; exact .refl d
  | s + 1, i, d, hi, hb => by
    rw [partialIns]
    have hle := scanSorted_le lt d b _ i (Nat.le_refl _) hi
    obtain ⟨q, hq⟩ : ∃ q, scanSorted lt d b i = q := ⟨_, rfl⟩
    rw [hq] at hle ⊢
    dsimp only
    split
    · exact .refl d
    · split
      · exact .refl d
      · have h0 := PermA.swp d (i := q) (j := q - 1) (by omega) (by omega)
        have h1 : PermA d (if q - a ≥ 2 then shiftDown lt (q - 1) (swp d q (q - 1)) else swp d q (q - 1)) := by
          split
          · exact h0.trans (shiftDown_perm lt _ _ (by rw [h0.size]; omega))
          · exact h0
        obtain ⟨d1, hd1⟩ : ∃ d1, (if q - a ≥ 2 then shiftDown lt (q - 1) (swp d q (q - 1)) else swp d q (q - 1)) = d1 := ⟨_, rfl⟩
        rw [hd1] at h1 ⊢
        have h2 : PermA d (if b - q ≥ 2 then shiftUp lt b (q + 1) d1 else d1) := by
          split
          · exact h1.trans (shiftUp_perm lt b _ _ _ (Nat.le_refl _) (by rw [h1.size]; exact hb))
          · exact h1
        exact h2.trans (partialIns_perm lt a b s q _ hle (by rw [h2.size]; exact hb))
theorem partialInsertionSort_perm (lt : α → α → Bool) (d : Array α) {a b : Nat} (hab : a < b) (hb : b ≤ d.size) : PermA d (partialInsertionSort lt d a b).1 := partialIns_perm lt a b 5 (a + 1) d hab hb
theorem partition_any (lt : α → α → Bool) (d : Array α) {a b pivot : Nat} (h1 : a ≤ pivot) (h2 : pivot < b) (hb : b ≤ d.size) : a ≤ (partition lt d a b pivot).1 ∧ (partition lt d a b pivot).1 < b ∧ PermA d (partition lt d a b pivot).2.2 := by
  have h0 := PermA.swp d (i := a) (j := pivot) (by omega) (by omega)
  have hs := partLoop_spec (lt := lt) a b _ (a + 1) (b - 1) (swp d a pivot) (Nat.le_refl _) (by omega) (by omega) (by omega) (by rw [h0.size]; exact hb) (fun t h h' => by omega) (fun t h h' => by omega)
  rw [partition_fst, partition_arr]
  have h3 := h0.trans (PermA.of_in (by rw [h0.size]; exact hb) hs.2.2.1)
  exact ⟨hs.1, hs.2.1, h3.trans (PermA.swp _ (by rw [h3.size]; omega) (by rw [h3.size]; omega))⟩
theorem partitionEqual_any (lt : α → α → Bool) (d : Array α) {a b pivot : Nat} (h1 : a ≤ pivot) (h2 : pivot < b) (hb : b ≤ d.size) : a < (partitionEqual lt d a b pivot).1 ∧ (partitionEqual lt d a b pivot).1 ≤ b ∧ PermA d (partitionEqual lt d a b pivot).2 := by
  have h0 := PermA.swp d (i := a) (j := pivot) (by omega) (by omega)
  have hs := partEqLoop_spec (lt := lt) a b _ (a + 1) (b - 1) (swp d a pivot) (Nat.le_refl _) (by omega) (by omega) (by omega) (by rw [h0.size]; exact hb) (fun t h h' => by omega) (fun t h h' => by omega)
  unfold partitionEqual
  exact ⟨hs.1, hs.2.1, h0.trans (PermA.of_in (by rw [h0.size]; exact hb) hs.2.2.1)⟩
end
end Go.Proofs.Ytfapllhjccpfpaa
