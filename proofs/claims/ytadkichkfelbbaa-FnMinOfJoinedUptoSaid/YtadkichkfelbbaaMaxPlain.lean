/- Plain lemmas: the greatest and the least number of a list. No program in sight. -/
import Derived.Test.YtadkichkfelbbaaPlain
namespace Go.Proofs.Ytadkichkfelbbaa

/-- A number of the list that is not less than any of it. -/
def IsMax (zs : List Int) (m : Int) : Prop := m ∈ zs ∧ ∀ z ∈ zs, z ≤ m
def IsMin (zs : List Int) (m : Int) : Prop := m ∈ zs ∧ ∀ z ∈ zs, m ≤ z
theorem IsMax.unique {zs : List Int} {m n : Int} (h : IsMax zs m) (k : IsMax zs n) : m = n := Int.le_antisymm (k.2 m h.1) (h.2 n k.1)
theorem IsMin.unique {zs : List Int} {m n : Int} (h : IsMin zs m) (k : IsMin zs n) : m = n := Int.le_antisymm (h.2 n k.1) (k.2 m h.1)
/-- The greatest number, 0 of none. -/
def maxI (zs : List Int) : Int := zs.tail.foldl max (zs.headD 0)
def minI (zs : List Int) : Int := zs.tail.foldl min (zs.headD 0)
theorem foldl_max (l : List Int) (a : Int) : (l.foldl max a = a ∨ l.foldl max a ∈ l) ∧ a ≤ l.foldl max a ∧ ∀ z ∈ l, z ≤ l.foldl max a := by
  induction l generalizing a with
  | nil => simp
  | cons b l ih =>
    obtain ⟨h1, h2, h3⟩ := ih (max a b)
    simp only [List.foldl_cons, List.mem_cons]
    refine ⟨?_, by omega, ?_⟩
    · rcases h1 with h1 | h1
      · rw [h1]
        rcases Int.le_total a b with h | h
        · right; left; omega
        · left; omega
      · exact .inr (.inr h1)
    · rintro z (rfl | hz)
      · omega
      · exact h3 z hz
theorem foldl_min (l : List Int) (a : Int) : (l.foldl min a = a ∨ l.foldl min a ∈ l) ∧ l.foldl min a ≤ a ∧ ∀ z ∈ l, l.foldl min a ≤ z := by
  induction l generalizing a with
  | nil => simp
  | cons b l ih =>
    obtain ⟨h1, h2, h3⟩ := ih (min a b)
    simp only [List.foldl_cons, List.mem_cons]
    refine ⟨?_, by omega, ?_⟩
    · rcases h1 with h1 | h1
      · rw [h1]
        rcases Int.le_total a b with h | h
        · left; omega
        · right; left; omega
      · exact .inr (.inr h1)
    · rintro z (rfl | hz)
      · omega
      · exact h3 z hz
theorem isMax_maxI {zs : List Int} (h : zs ≠ []) : IsMax zs (maxI zs) := by
  match zs, h with
  | a :: l, _ =>
    obtain ⟨h1, h2, h3⟩ := foldl_max l a
    refine ⟨?_, fun z hz => ?_⟩
    · rcases h1 with h1 | h1
      · show l.foldl max a ∈ a :: l
        rw [h1]; exact List.mem_cons_self
      · exact List.mem_cons_of_mem _ h1
    · rcases List.mem_cons.1 hz with rfl | hz
      · exact h2
      · exact h3 z hz
theorem isMin_minI {zs : List Int} (h : zs ≠ []) : IsMin zs (minI zs) := by
  match zs, h with
  | a :: l, _ =>
    obtain ⟨h1, h2, h3⟩ := foldl_min l a
    refine ⟨?_, fun z hz => ?_⟩
    · rcases h1 with h1 | h1
      · show l.foldl min a ∈ a :: l
        rw [h1]; exact List.mem_cons_self
      · exact List.mem_cons_of_mem _ h1
    · rcases List.mem_cons.1 hz with rfl | hz
      · exact h2
      · exact h3 z hz
theorem mem_iff_gi {zs : List Int} {z : Int} : z ∈ zs ↔ ∃ i, i < zs.length ∧ gi zs i = z := by
  rw [List.mem_iff_getElem]
  constructor
  · rintro ⟨i, hi, h⟩; exact ⟨i, hi, by rw [gi_eq hi, h]⟩
  · rintro ⟨i, hi, h⟩; exact ⟨i, hi, by rw [← gi_eq hi, h]⟩
/-- What the library's loop keeps: m is the greatest of the first k. -/
def MaxTo (zs : List Int) (k : Nat) (m : Int) : Prop := (∃ i, i < k ∧ gi zs i = m) ∧ ∀ i, i < k → gi zs i ≤ m
def MinTo (zs : List Int) (k : Nat) (m : Int) : Prop := (∃ i, i < k ∧ gi zs i = m) ∧ ∀ i, i < k → m ≤ gi zs i
theorem MaxTo.start (zs : List Int) : MaxTo zs 1 (gi zs 0) := ⟨⟨0, by omega, rfl⟩, fun i hi => by
    obtain rfl : i = 0 := by omega
    exact Int.le_refl _⟩
theorem MinTo.start (zs : List Int) : MinTo zs 1 (gi zs 0) := ⟨⟨0, by omega, rfl⟩, fun i hi => by
    obtain rfl : i = 0 := by omega
    exact Int.le_refl _⟩
theorem MaxTo.more {zs : List Int} {k : Nat} {m : Int} (h : MaxTo zs k m) (hk : m < gi zs k) : MaxTo zs (k + 1) (gi zs k) :=
  ⟨⟨k, by omega, rfl⟩, fun i hi => by
    rcases Nat.lt_or_ge i k with h1 | h1
    · have := h.2 i h1; omega
    · obtain rfl : i = k := by omega
      exact Int.le_refl _⟩
theorem MaxTo.keep {zs : List Int} {k : Nat} {m : Int} (h : MaxTo zs k m) (hk : gi zs k ≤ m) : MaxTo zs (k + 1) m :=
  ⟨by obtain ⟨i, hi, e⟩ := h.1; exact ⟨i, by omega, e⟩, fun i hi => by
    rcases Nat.lt_or_ge i k with h1 | h1
    · exact h.2 i h1
    · obtain rfl : i = k := by omega
      exact hk⟩
theorem MinTo.more {zs : List Int} {k : Nat} {m : Int} (h : MinTo zs k m) (hk : gi zs k < m) : MinTo zs (k + 1) (gi zs k) :=
  ⟨⟨k, by omega, rfl⟩, fun i hi => by
    rcases Nat.lt_or_ge i k with h1 | h1
    · have := h.2 i h1; omega
    · obtain rfl : i = k := by omega
      exact Int.le_refl _⟩
theorem MinTo.keep {zs : List Int} {k : Nat} {m : Int} (h : MinTo zs k m) (hk : m ≤ gi zs k) : MinTo zs (k + 1) m :=
  ⟨by obtain ⟨i, hi, e⟩ := h.1; exact ⟨i, by omega, e⟩, fun i hi => by
    rcases Nat.lt_or_ge i k with h1 | h1
    · exact h.2 i h1
    · obtain rfl : i = k := by omega
      exact hk⟩
theorem MaxTo.done {zs : List Int} {k : Nat} {m : Int} (h : MaxTo zs k m) (hk : k = zs.length) : m = maxI zs := by
  subst hk
  obtain ⟨⟨i, hi, e⟩, h2⟩ := h
  have hm : IsMax zs m := ⟨mem_iff_gi.2 ⟨i, hi, e⟩, fun z hz => by
    obtain ⟨j, hj, e'⟩ := mem_iff_gi.1 hz
    have := h2 j hj
    omega⟩
  exact hm.unique (isMax_maxI (by rintro rfl; simp at hi))
theorem MinTo.done {zs : List Int} {k : Nat} {m : Int} (h : MinTo zs k m) (hk : k = zs.length) : m = minI zs := by
  subst hk
  obtain ⟨⟨i, hi, e⟩, h2⟩ := h
  have hm : IsMin zs m := ⟨mem_iff_gi.2 ⟨i, hi, e⟩, fun z hz => by
    obtain ⟨j, hj, e'⟩ := mem_iff_gi.1 hz
    have := h2 j hj
    omega⟩
  exact hm.unique (isMin_minI (by rintro rfl; simp at hi))

/-- What the reference's inner loop knows: are the first m numbers at most v. -/
def AllLe (zs : List Int) (v : Int) (m : Nat) (g : Bool) : Prop := g = true ↔ ∀ i, i < m → gi zs i ≤ v
def AllGe (zs : List Int) (v : Int) (m : Nat) (g : Bool) : Prop := g = true ↔ ∀ i, i < m → v ≤ gi zs i
theorem AllLe.start (zs : List Int) (v : Int) : AllLe zs v 0 true := ⟨fun _ i hi => absurd hi (by omega), fun _ => rfl⟩
theorem AllGe.start (zs : List Int) (v : Int) : AllGe zs v 0 true := ⟨fun _ i hi => absurd hi (by omega), fun _ => rfl⟩
theorem AllLe.step {zs : List Int} {v : Int} {m : Nat} {g : Bool} (h : AllLe zs v m g) : AllLe zs v (m + 1) (g && decide (gi zs m ≤ v)) := by
  unfold AllLe at *
  rw [Bool.and_eq_true, h, decide_eq_true_iff]
  refine ⟨fun ⟨h1, h2⟩ i hi => ?_, fun h1 => ⟨fun i hi => h1 i (by omega), h1 m (by omega)⟩⟩
  rcases Nat.lt_or_ge i m with h' | h'
  · exact h1 i h'
  · obtain rfl : i = m := by omega
    exact h2
theorem AllGe.step {zs : List Int} {v : Int} {m : Nat} {g : Bool} (h : AllGe zs v m g) : AllGe zs v (m + 1) (g && decide (v ≤ gi zs m)) := by
  unfold AllGe at *
  rw [Bool.and_eq_true, h, decide_eq_true_iff]
  refine ⟨fun ⟨h1, h2⟩ i hi => ?_, fun h1 => ⟨fun i hi => h1 i (by omega), h1 m (by omega)⟩⟩
  rcases Nat.lt_or_ge i m with h' | h'
  · exact h1 i h'
  · obtain rfl : i = m := by omega
    exact h2
theorem AllLe.max {zs : List Int} {k : Nat} (hk : k < zs.length) (h : AllLe zs (gi zs k) zs.length true) : gi zs k = maxI zs := by
  have h' := h.1 rfl
  have hm : IsMax zs (gi zs k) := ⟨gi_mem hk, fun z hz => by
    obtain ⟨j, hj, e⟩ := mem_iff_gi.1 hz
    have := h' j hj
    omega⟩
  exact hm.unique (isMax_maxI (by rintro rfl; simp at hk))
theorem AllGe.min {zs : List Int} {k : Nat} (hk : k < zs.length) (h : AllGe zs (gi zs k) zs.length true) : gi zs k = minI zs := by
  have h' := h.1 rfl
  have hm : IsMin zs (gi zs k) := ⟨gi_mem hk, fun z hz => by
    obtain ⟨j, hj, e⟩ := mem_iff_gi.1 hz
    have := h' j hj
    omega⟩
  exact hm.unique (isMin_minI (by rintro rfl; simp at hk))
/-- Not every number of a list falls short. -/
theorem some_max {zs : List Int} (h0 : 0 < zs.length) (h : ∀ j, j < zs.length → AllLe zs (gi zs j) zs.length false) : False := by
  obtain ⟨j, hj, e⟩ := mem_iff_gi.1 (isMax_maxI (zs := zs) (by rintro rfl; simp at h0)).1
  have := (h j hj).2 (fun i hi => by rw [e]; exact (isMax_maxI (zs := zs) (by rintro rfl; simp at h0)).2 _ (gi_mem hi))
  cases this
theorem some_min {zs : List Int} (h0 : 0 < zs.length) (h : ∀ j, j < zs.length → AllGe zs (gi zs j) zs.length false) : False := by
  obtain ⟨j, hj, e⟩ := mem_iff_gi.1 (isMin_minI (zs := zs) (by rintro rfl; simp at h0)).1
  have := (h j hj).2 (fun i hi => by rw [e]; exact (isMin_minI (zs := zs) (by rintro rfl; simp at h0)).2 _ (gi_mem hi))
  cases this
end Go.Proofs.Ytadkichkfelbbaa
