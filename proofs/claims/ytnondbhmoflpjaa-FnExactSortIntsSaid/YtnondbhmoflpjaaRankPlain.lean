/- Plain lemmas: the place that as many others as come before a number leave. No program in sight. -/
import Derived.Test.YtnondbhmoflpjaaSortPlain
namespace Go.Proofs.Ytnondbhmoflpjaa

/-- How often v is among the first j. -/
def eqN (zs : List Int) (v : Int) (j : Nat) : Nat := (zs.take j).count v
/-- The place of number i: behind the lesser ones, and the equal ones ahead of it. -/
def rank (zs : List Int) (i : Nat) : Nat := lessN zs (gi zs i) + eqN zs (gi zs i) i
theorem eqN_step {zs : List Int} {v : Int} {j : Nat} (h : j < zs.length) : eqN zs v (j + 1) = eqN zs v j + if gi zs j = v then 1 else 0 := by
  unfold eqN
  rw [take_gi h, List.count_append]
  by_cases e : gi zs j = v <;> simp [e]
theorem eqN_mono (zs : List Int) (v : Int) {i j : Nat} (h : i ≤ j) : eqN zs v i ≤ eqN zs v j := by
  unfold eqN
  exact List.Sublist.count_le _ (List.take_sublist_take_left h)
theorem most_eq (zs : List Int) (v : Int) : mostN zs v = lessN zs v + zs.count v := by
  unfold mostN lessN
  induction zs with
  | nil => rfl
  | cons a l ih =>
    simp only [List.countP_cons, List.count_cons, ih]
    by_cases h1 : a < v
    · have : ¬ a = v := by omega
      have h2 : a ≤ v := by omega
      simp [h1, h2, this]; omega
    · by_cases h2 : a = v
      · subst h2; simp
        omega
      · have : ¬ a ≤ v := by omega
        simp [h1, h2, this]
theorem rank_lt {zs : List Int} {i : Nat} (hi : i < zs.length) : lessN zs (gi zs i) ≤ rank zs i ∧ rank zs i < mostN zs (gi zs i) := by
  refine ⟨Nat.le_add_right _ _, ?_⟩
  rw [most_eq]
  unfold rank
  have h1 := eqN_step (zs := zs) (v := gi zs i) hi
  have h2 : eqN zs (gi zs i) (i + 1) ≤ zs.count (gi zs i) := List.Sublist.count_le _ (List.take_sublist _ _)
  simp at h1
  omega
theorem most_le (zs : List Int) (v : Int) : mostN zs v ≤ zs.length := List.countP_le_length
/-- In an ascending list the places of v are those behind all lesser numbers and ahead of all greater ones. -/
theorem at_place {ys : List Int} (h : ascB ys = true) {v : Int} {p : Nat} (h1 : lessN ys v ≤ p) (h2 : p < mostN ys v) : gi ys p = v := by
  have hp : p < ys.length := Nat.lt_of_lt_of_le h2 (most_le _ _)
  have hm := (ascB_iff ys).1 h
  have hpl := places_asc h hp
  rcases Int.lt_trichotomy (gi ys p) v with h3 | h3 | h3
  · exfalso
    have : mostN ys (gi ys p) ≤ lessN ys v := by
      unfold mostN lessN
      exact List.countP_mono_left (fun x _ hx => by simp at *; omega)
    omega
  · exact h3
  · exfalso
    have : mostN ys v ≤ lessN ys (gi ys p) := by
      unfold mostN lessN
      exact List.countP_mono_left (fun x _ hx => by simp at *; omega)
    omega
theorem sort_rank {zs : List Int} {i : Nat} (hi : i < zs.length) : gi (sortI zs) (rank zs i) = gi zs i := by
  have := rank_lt hi
  refine at_place (asc_sortI zs) ?_ ?_
  · rw [lessN_perm (perm_sortI zs)]; exact this.1
  · rw [mostN_perm (perm_sortI zs)]; exact this.2
theorem nth_eq {zs : List Int} {v : Int} : ∀ {t : Nat}, t < zs.count v → ∃ j, j < zs.length ∧ gi zs j = v ∧ eqN zs v j = t := by
  induction zs with
  | nil => intro t ht; simp at ht
  | cons a l ih =>
    intro t ht
    by_cases e : a = v
    · subst e
      match t with
      | 0 => exact ⟨0, by simp, by simp [gi], by simp [eqN]⟩
      | t + 1 =>
        rw [List.count_cons_self] at ht
        obtain ⟨j, hj, h1, h2⟩ := ih (t := t) (by omega)
        refine ⟨j + 1, by simpa using hj, by simpa [gi] using h1, ?_⟩
        unfold eqN at *
        rw [List.take_succ_cons, List.count_cons_self, h2]
    · rw [List.count_cons_of_ne (by simpa using e)] at ht
      obtain ⟨j, hj, h1, h2⟩ := ih (t := t) ht
      refine ⟨j + 1, by simpa using hj, by simpa [gi] using h1, ?_⟩
      unfold eqN at *
      rw [List.take_succ_cons, List.count_cons_of_ne (by simpa using e), h2]
/-- Every place is some number's. -/
theorem rank_onto {zs : List Int} {p : Nat} (hp : p < zs.length) : ∃ j, j < zs.length ∧ rank zs j = p := by
  have hp' : p < (sortI zs).length := by rw [length_sortI]; exact hp
  have h := places hp'
  rw [most_eq] at h
  obtain ⟨j, hj, h1, h2⟩ := nth_eq (zs := zs) (v := gi (sortI zs) p) (t := p - lessN zs (gi (sortI zs) p)) (by omega)
  refine ⟨j, hj, ?_⟩
  unfold rank
  rw [h1, h2]
  omega
theorem rank_bound {zs : List Int} {i : Nat} (hi : i < zs.length) : rank zs i < zs.length := Nat.lt_of_lt_of_le (rank_lt hi).2 (most_le _ _)
/-- Cells that hold each number at its place are those of the sorted list. -/
theorem cells_ranked {cs : Array Value} {zs : List Int} (hs : cs.size = zs.length) (h : ∀ j, j < zs.length → cs[rank zs j]? = some (.int .i64 (gi zs j))) : cs = intCells (sortI zs) := by
  refine intCells_of (by rw [length_sortI]; exact hs) fun p hp => ?_
  rw [length_sortI] at hp
  obtain ⟨j, hj, rfl⟩ := rank_onto hp
  rw [h j hj, sort_rank hj]
end Go.Proofs.Ytnondbhmoflpjaa
