/- Plain lemmas: the first item with the greatest, the least key. No program in sight. -/
import Derived.Test.YtnjnphoidjachaaItems
namespace Go.Proofs.Ytnjnphoidjachaa

/-- Of the first k items, item i is the first one with the greatest key. -/
def FMax (xs : List (Int × Int)) (k i : Nat) : Prop := i < k ∧ (∀ j, j < k → gk xs j ≤ gk xs i) ∧ ∀ j, j < i → gk xs j < gk xs i
def FMin (xs : List (Int × Int)) (k i : Nat) : Prop := i < k ∧ (∀ j, j < k → gk xs i ≤ gk xs j) ∧ ∀ j, j < i → gk xs i < gk xs j
theorem FMax.unique {xs : List (Int × Int)} {k i j : Nat} (h : FMax xs k i) (h' : FMax xs k j) : i = j := by
  obtain ⟨h1, h2, h3⟩ := h
  obtain ⟨g1, g2, g3⟩ := h'
  rcases Nat.lt_trichotomy i j with h | h | h
  · have := g3 i h; have := h2 j g1; omega
  · exact h
  · have := h3 j h; have := g2 i h1; omega
theorem FMin.unique {xs : List (Int × Int)} {k i j : Nat} (h : FMin xs k i) (h' : FMin xs k j) : i = j := by
  obtain ⟨h1, h2, h3⟩ := h
  obtain ⟨g1, g2, g3⟩ := h'
  rcases Nat.lt_trichotomy i j with h | h | h
  · have := g3 i h; have := h2 j g1; omega
  · exact h
  · have := h3 j h; have := g2 i h1; omega
theorem FMax.start (xs : List (Int × Int)) : FMax xs 1 0 := ⟨by omega, fun j hj => by
    obtain rfl : j = 0 := by omega
    exact Int.le_refl _, fun j hj => absurd hj (by omega)⟩
theorem FMin.start (xs : List (Int × Int)) : FMin xs 1 0 := ⟨by omega, fun j hj => by
    obtain rfl : j = 0 := by omega
    exact Int.le_refl _, fun j hj => absurd hj (by omega)⟩
theorem FMax.more {xs : List (Int × Int)} {k i : Nat} (h : FMax xs k i) (hk : gk xs i < gk xs k) : FMax xs (k + 1) k :=
  ⟨by omega, fun j hj => by
    rcases Nat.lt_or_ge j k with h1 | h1
    · have := h.2.1 j h1; omega
    · obtain rfl : j = k := by omega
      exact Int.le_refl _, fun j hj => by have := h.2.1 j hj; omega⟩
theorem FMax.keep {xs : List (Int × Int)} {k i : Nat} (h : FMax xs k i) (hk : gk xs k ≤ gk xs i) : FMax xs (k + 1) i :=
  ⟨by have := h.1; omega, fun j hj => by
    rcases Nat.lt_or_ge j k with h1 | h1
    · exact h.2.1 j h1
    · obtain rfl : j = k := by omega
      exact hk, h.2.2⟩
theorem FMin.more {xs : List (Int × Int)} {k i : Nat} (h : FMin xs k i) (hk : gk xs k < gk xs i) : FMin xs (k + 1) k :=
  ⟨by omega, fun j hj => by
    rcases Nat.lt_or_ge j k with h1 | h1
    · have := h.2.1 j h1; omega
    · obtain rfl : j = k := by omega
      exact Int.le_refl _, fun j hj => by have := h.2.1 j hj; omega⟩
theorem FMin.keep {xs : List (Int × Int)} {k i : Nat} (h : FMin xs k i) (hk : gk xs i ≤ gk xs k) : FMin xs (k + 1) i :=
  ⟨by have := h.1; omega, fun j hj => by
    rcases Nat.lt_or_ge j k with h1 | h1
    · exact h.2.1 j h1
    · obtain rfl : j = k := by omega
      exact hk, h.2.2⟩
theorem FMax.exists_ (xs : List (Int × Int)) : ∀ k, 0 < k → ∃ i, FMax xs k i
  | 0, h => absurd h (by omega)
  | 1, _ => ⟨0, FMax.start xs⟩
  | k + 2, _ => by
    obtain ⟨i, hi⟩ := FMax.exists_ xs (k + 1) (by omega)
    by_cases h : gk xs i < gk xs (k + 1)
    · exact ⟨_, hi.more h⟩
    · exact ⟨_, hi.keep (Int.not_lt.1 h)⟩
theorem FMin.exists_ (xs : List (Int × Int)) : ∀ k, 0 < k → ∃ i, FMin xs k i
  | 0, h => absurd h (by omega)
  | 1, _ => ⟨0, FMin.start xs⟩
  | k + 2, _ => by
    obtain ⟨i, hi⟩ := FMin.exists_ xs (k + 1) (by omega)
    by_cases h : gk xs (k + 1) < gk xs i
    · exact ⟨_, hi.more h⟩
    · exact ⟨_, hi.keep (Int.not_lt.1 h)⟩
/-- What the reference's inner loop knows: are the first m keys at most v. -/
def KLe (xs : List (Int × Int)) (v : Int) (m : Nat) (g : Bool) : Prop := g = true ↔ ∀ i, i < m → gk xs i ≤ v
def KGe (xs : List (Int × Int)) (v : Int) (m : Nat) (g : Bool) : Prop := g = true ↔ ∀ i, i < m → v ≤ gk xs i
theorem KLe.start (xs : List (Int × Int)) (v : Int) : KLe xs v 0 true := ⟨fun _ i hi => absurd hi (by omega), fun _ => rfl⟩
theorem KGe.start (xs : List (Int × Int)) (v : Int) : KGe xs v 0 true := ⟨fun _ i hi => absurd hi (by omega), fun _ => rfl⟩
theorem KLe.step {xs : List (Int × Int)} {v : Int} {m : Nat} {g : Bool} (h : KLe xs v m g) : KLe xs v (m + 1) (g && decide (gk xs m ≤ v)) := by
  unfold KLe at *
  rw [Bool.and_eq_true, h, decide_eq_true_iff]
  refine ⟨fun ⟨h1, h2⟩ i hi => ?_, fun h1 => ⟨fun i hi => h1 i (by omega), h1 m (by omega)⟩⟩
  rcases Nat.lt_or_ge i m with h' | h'
  · exact h1 i h'
  · obtain rfl : i = m := by omega
    exact h2
theorem KGe.step {xs : List (Int × Int)} {v : Int} {m : Nat} {g : Bool} (h : KGe xs v m g) : KGe xs v (m + 1) (g && decide (v ≤ gk xs m)) := by
  unfold KGe at *
  rw [Bool.and_eq_true, h, decide_eq_true_iff]
  refine ⟨fun ⟨h1, h2⟩ i hi => ?_, fun h1 => ⟨fun i hi => h1 i (by omega), h1 m (by omega)⟩⟩
  rcases Nat.lt_or_ge i m with h' | h'
  · exact h1 i h'
  · obtain rfl : i = m := by omega
    exact h2
/-- The first item that no key passes is the first one with the greatest key. -/
theorem KLe.first {xs : List (Int × Int)} {k : Nat} (hk : k < xs.length) (h : KLe xs (gk xs k) xs.length true) (hs : ∀ j, j < k → KLe xs (gk xs j) xs.length false) : FMax xs xs.length k :=
  ⟨hk, h.1 rfl, fun j hj => Int.not_le.1 fun hle => by
    have := (hs j hj).2 (fun i hi => Int.le_trans (h.1 rfl i hi) hle)
    cases this⟩
theorem KGe.first {xs : List (Int × Int)} {k : Nat} (hk : k < xs.length) (h : KGe xs (gk xs k) xs.length true) (hs : ∀ j, j < k → KGe xs (gk xs j) xs.length false) : FMin xs xs.length k :=
  ⟨hk, h.1 rfl, fun j hj => Int.not_le.1 fun hle => by
    have := (hs j hj).2 (fun i hi => Int.le_trans hle (h.1 rfl i hi))
    cases this⟩
theorem KLe.some_ {xs : List (Int × Int)} (h0 : 0 < xs.length) (h : ∀ j, j < xs.length → KLe xs (gk xs j) xs.length false) : False := by
  obtain ⟨i, hi⟩ := FMax.exists_ xs xs.length h0
  have := (h i hi.1).2 hi.2.1
  cases this
theorem KGe.some_ {xs : List (Int × Int)} (h0 : 0 < xs.length) (h : ∀ j, j < xs.length → KGe xs (gk xs j) xs.length false) : False := by
  obtain ⟨i, hi⟩ := FMin.exists_ xs xs.length h0
  have := (h i hi.1).2 hi.2.1
  cases this
end Go.Proofs.Ytnjnphoidjachaa
