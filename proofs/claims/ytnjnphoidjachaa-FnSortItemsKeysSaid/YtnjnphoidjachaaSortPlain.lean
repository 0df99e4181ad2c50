/- Plain lemmas on sorted lists of numbers: there is one ascending list of given numbers. No program in sight. -/
import Derived.Test.YtnjnphoidjachaaPlain
namespace Go.Proofs.Ytnjnphoidjachaa

/-- The numbers in ascending order. -/
def sortI (zs : List Int) : List Int := zs.mergeSort fun x y => decide (x ≤ y)
theorem length_sortI (zs : List Int) : (sortI zs).length = zs.length := List.length_mergeSort _
theorem perm_sortI (zs : List Int) : (sortI zs).Perm zs := List.mergeSort_perm _ _
theorem asc_sortI (zs : List Int) : ascB (sortI zs) = true := by
  unfold ascB
  rw [decide_eq_true_iff]
  have := List.pairwise_mergeSort (le := fun x y : Int => decide (x ≤ y)) (fun a b c h1 h2 => by simp at *; omega) (fun a b => by simp; omega) zs
  exact this.imp (fun h => by simpa using h)
theorem sortI_nil : sortI [] = [] := by simp [sortI]
/-- Two ascending lists of the same numbers are one. -/
theorem asc_unique {xs ys : List Int} (hx : ascB xs = true) (hy : ascB ys = true) (hp : xs.Perm ys) : xs = ys := by
  unfold ascB at hx hy
  rw [decide_eq_true_iff] at hx hy
  exact hp.eq_of_pairwise (fun a b _ _ h1 h2 => Int.le_antisymm h1 h2) hx hy
theorem sortI_of_perm {xs ys : List Int} (hp : xs.Perm ys) : sortI xs = sortI ys :=
  asc_unique (asc_sortI _) (asc_sortI _) ((perm_sortI xs).trans (hp.trans (perm_sortI ys).symm))
theorem sortI_of_asc {xs : List Int} (h : ascB xs = true) : sortI xs = xs := asc_unique (asc_sortI _) h (perm_sortI _)
theorem sortI_idem (xs : List Int) : sortI (sortI xs) = sortI xs := sortI_of_asc (asc_sortI _)
theorem asc_iff_sorted (xs : List Int) : ascB xs = decide (sortI xs = xs) := by
  rw [Bool.eq_iff_iff, decide_eq_true_iff]
  exact ⟨sortI_of_asc, fun h => by rw [← h]; exact asc_sortI _⟩
theorem count_sortI (xs : List Int) (v : Int) : (sortI xs).count v = xs.count v := (perm_sortI xs).count_eq v

/-- How many numbers are at most v. -/
def mostN (zs : List Int) (v : Int) : Nat := zs.countP (fun x => decide (x ≤ v))
theorem mostN_step {zs : List Int} {v : Int} {k : Nat} (h : k < zs.length) : mostN (zs.take (k + 1)) v = mostN (zs.take k) v + if gi zs k ≤ v then 1 else 0 := by
  unfold mostN
  rw [take_gi h, List.countP_append]
  simp [List.countP_cons]
theorem lessN_perm {xs ys : List Int} (h : xs.Perm ys) (v : Int) : lessN xs v = lessN ys v := h.countP_eq _
theorem mostN_perm {xs ys : List Int} (h : xs.Perm ys) (v : Int) : mostN xs v = mostN ys v := h.countP_eq _
/-- In an ascending list at most k numbers are less than the one at k, and more than k are at most it. -/
theorem places_asc {ys : List Int} (h : ascB ys = true) {k : Nat} (hk : k < ys.length) : lessN ys (gi ys k) ≤ k ∧ k < mostN ys (gi ys k) := by
  have hm := (ascB_iff ys).1 h
  constructor
  · unfold lessN
    rw [← List.take_append_drop k ys, List.countP_append]
    have e2 : (ys.drop k).countP (fun x => decide (x < gi (List.take k ys ++ List.drop k ys) k)) = 0 := List.countP_eq_zero.2 (fun a ha => by
      obtain ⟨j, hj, rfl⟩ := List.mem_iff_getElem.1 ha
      have hj' : k + j < ys.length := by simp at hj; omega
      rw [List.take_append_drop, List.getElem_drop, ← gi_eq hj']
      rcases Nat.eq_zero_or_pos j with h0 | h0
      · subst h0; simp
      · have := hm k (k + j) (by omega) hj'; simp; omega)
    rw [e2]
    have : (ys.take k).countP (fun x => decide (x < gi (List.take k ys ++ List.drop k ys) k)) ≤ (ys.take k).length := List.countP_le_length
    simp at this
    simp
    omega
  · unfold mostN
    have e1 : (ys.take (k + 1)).countP (fun x => decide (x ≤ gi ys k)) = k + 1 := by
      have hl : (ys.take (k + 1)).length = k + 1 := by simp; omega
      have := (List.countP_eq_length (p := fun x => decide (x ≤ gi ys k)) (l := ys.take (k + 1))).2 (fun a ha => by
        obtain ⟨j, hj, rfl⟩ := List.mem_iff_getElem.1 ha
        have hj' : j < k + 1 := by omega
        rw [List.getElem_take, ← gi_eq (by omega)]
        rcases Nat.lt_or_ge j k with h1 | h1
        · have := hm j k h1 hk; simpa using this
        · obtain rfl : j = k := by omega
          simp)
      omega
    have e2 : ys.countP (fun x => decide (x ≤ gi ys k)) = (ys.take (k + 1)).countP (fun x => decide (x ≤ gi ys k)) + (ys.drop (k + 1)).countP (fun x => decide (x ≤ gi ys k)) := by
      rw [← List.countP_append, List.take_append_drop]
    omega
theorem places {zs : List Int} {k : Nat} (hk : k < (sortI zs).length) : lessN zs (gi (sortI zs) k) ≤ k ∧ k < mostN zs (gi (sortI zs) k) := by
  have := places_asc (asc_sortI zs) hk
  rw [lessN_perm (perm_sortI zs), mostN_perm (perm_sortI zs)] at this
  exact this

theorem mostN_set : ∀ (zs : List Int) (i : Nat) (v a b : Int), a < b → gi zs i ≤ v → i < zs.length → mostN (zs.set i v) a ≤ lessN zs b
  | [], _, _, _, _, _, _, h => absurd h (by simp)
  | z :: zs, 0, v, a, b, hab, hle, _ => by
    have hz : z ≤ v := by simpa [gi] using hle
    have e : mostN zs a ≤ lessN zs b := by
      unfold mostN lessN
      exact List.countP_mono_left (fun x _ h => by simp at *; omega)
    simp only [List.set_cons_zero, mostN, lessN, List.countP_cons] at *
    split <;> split <;> simp_all <;> omega
  | z :: zs, i + 1, v, a, b, hab, hle, hi => by
    have ih := mostN_set zs i v a b hab (by simpa [gi] using hle) (by simpa using hi)
    simp only [List.set_cons_succ, mostN, lessN, List.countP_cons] at *
    split <;> split <;> simp_all <;> omega
/-- If one number becomes greater, no place of the sorted list becomes less. -/
theorem monotone {zs : List Int} {i : Nat} {v : Int} (hi : i < zs.length) (hv : gi zs i ≤ v) {k : Nat} (hk : k < zs.length) : gi (sortI zs) k ≤ gi (sortI (zs.set i v)) k := by
  refine Int.not_lt.1 fun hlt => ?_
  have h1 := (places (zs := zs.set i v) (k := k) (by rw [length_sortI]; simpa using hk)).2
  have h2 := (places (zs := zs) (k := k) (by rw [length_sortI]; exact hk)).1
  have h3 := mostN_set zs i v _ _ hlt hv hi
  omega
end Go.Proofs.Ytnjnphoidjachaa
