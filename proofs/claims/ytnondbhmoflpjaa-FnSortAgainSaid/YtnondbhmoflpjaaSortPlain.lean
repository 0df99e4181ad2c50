/- Plain lemmas on sorted lists of numbers: there is one ascending list of given numbers. No program in sight. -/
import Derived.Test.YtnondbhmoflpjaaPlain
namespace Go.Proofs.Ytnondbhmoflpjaa

/-- The numbers in ascending order. -/
def sortI (zs : List Int) : List Int := zs.mergeSort fun x y => decide (x ≤ y)
theorem length_sortI (zs : List Int) : (sortI zs).length = zs.length := List.length_mergeSort _
theorem perm_sortI (zs : List Int) : (sortI zs).Perm zs := List.mergeSort_perm _ _
theorem asc_sortI (zs : List Int) : ascB (sortI zs) = true := by
  unfold ascB
  rw [decide_eq_true_iff]
  have := List.pairwise_mergeSort (le := fun x y : Int => decide (x ≤ y)) (fun a b c h1 h2 => by simp at *; omega) (fun a b => by simp; omega) zs
  exact this.imp (fun h => by simpa using h)
theorem sortI_nil : sortI [] = [] := by simp [sortI]
/-- Two ascending lists of the same numbers are one. -/
theorem asc_unique {xs ys : List Int} (hx : ascB xs = true) (hy : ascB ys = true) (hp : xs.Perm ys) : xs = ys := by
  unfold ascB at hx hy
  rw [decide_eq_true_iff] at hx hy
  exact hp.eq_of_pairwise (fun a b _ _ h1 h2 => Int.le_antisymm h1 h2) hx hy
theorem sortI_of_perm {xs ys : List Int} (hp : xs.Perm ys) : sortI xs = sortI ys :=
  asc_unique (asc_sortI _) (asc_sortI _) ((perm_sortI xs).trans (hp.trans (perm_sortI ys).symm))
theorem sortI_of_asc {xs : List Int} (h : ascB xs = true) : sortI xs = xs := asc_unique (asc_sortI _) h (perm_sortI _)
theorem sortI_idem (xs : List Int) : sortI (sortI xs) = sortI xs := sortI_of_asc (asc_sortI _)
theorem asc_iff_sorted (xs : List Int) : ascB xs = decide (sortI xs = xs) := by
  rw [Bool.eq_iff_iff, decide_eq_true_iff]
  exact ⟨sortI_of_asc, fun h => by rw [← h]; exact asc_sortI _⟩
theorem count_sortI (xs : List Int) (v : Int) : (sortI xs).count v = xs.count v := (perm_sortI xs).count_eq v
end Go.Proofs.Ytnondbhmoflpjaa
