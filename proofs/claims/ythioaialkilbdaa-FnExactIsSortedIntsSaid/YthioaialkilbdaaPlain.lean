/- Plain lemmas on lists of numbers: what it is to be ascending. No program in sight. -/
import Derived.Test.YthioaialkilbdaaBase
namespace Go.Proofs.Ythioaialkilbdaa

/-- No number is less than one ahead of it. -/
def ascB (zs : List Int) : Bool := decide (zs.Pairwise (· ≤ ·))
theorem ascB_iff (zs : List Int) : ascB zs = true ↔ ∀ i j, i < j → j < zs.length → gi zs i ≤ gi zs j := by
  unfold ascB
  rw [decide_eq_true_iff, List.pairwise_iff_getElem]
  constructor
  · intro h i j hij hj
    rw [gi_eq (by omega), gi_eq hj]
    exact h i j (by omega) hj hij
  · intro h i j hi hj hij
    have := h i j hij hj
    rwa [gi_eq hi, gi_eq hj] at this
theorem ascB_of_adj {zs : List Int} (h : ∀ i, i + 1 < zs.length → gi zs i ≤ gi zs (i + 1)) : ascB zs = true := by
  rw [ascB_iff]
  intro i j hij
  induction j with
  | zero => omega
  | succ j ih =>
    intro hj
    rcases Nat.lt_or_ge i j with h1 | h1
    · exact Int.le_trans (ih h1 (by omega)) (h j hj)
    · obtain rfl : i = j := by omega
      exact h i hj
theorem ascB_false {zs : List Int} {i j : Nat} (hij : i < j) (hj : j < zs.length) (h : gi zs j < gi zs i) : ascB zs = false := by
  cases hb : ascB zs with
  | false => rfl
  | true => have := (ascB_iff zs).1 hb i j hij hj; omega
end Go.Proofs.Ythioaialkilbdaa
