/- Plain lemmas on the library's compact at an ascending list. No program in sight. -/
import Derived.Test.YtnondbhmoflpjaaSortPlain
import Derived.Lib.SlicesCompact
namespace Go.Proofs.Ytnondbhmoflpjaa

theorem compactUpTo_asc {zs : List Int} (h : ascB zs = true) : ∀ m, m ≤ zs.length →
    (Lib.compactUpTo zs.toArray m).Pairwise (· < ·) ∧ ∀ v, v ∈ Lib.compactUpTo zs.toArray m ↔ ∃ i, i < m ∧ gi zs i = v := by
  have hm := (ascB_iff zs).1 h
  have hg : ∀ i, i < zs.length → zs.toArray[i]! = gi zs i := fun i hi => by simp [gi, hi]
  intro m
  induction m with
  | zero => intro _; simp [Lib.compactUpTo]
  | succ m ih =>
    intro hml
    obtain ⟨ih1, ih2⟩ := ih (by omega)
    rw [Lib.compactUpTo_succ]
    have hgm := hg m (by omega)
    by_cases hk : Lib.keeps zs.toArray m = true
    · rw [if_pos hk, hgm]
      refine ⟨?_, fun v => ?_⟩
      · rw [List.pairwise_append]
        refine ⟨ih1, by simp, fun a ha b hb => ?_⟩
        rw [List.mem_singleton] at hb
        subst hb
        obtain ⟨i, hi, rfl⟩ := (ih2 a).1 ha
        have hpos : 0 < m := by omega
        have hne : gi zs m ≠ gi zs (m - 1) := fun e => by
          have := Lib.keeps_neg (d := zs.toArray) hpos (by rw [hg m (by omega), hg (m - 1) (by omega)]; exact e)
          rw [this] at hk; cases hk
        have h1 := hm (m - 1) m (by omega) (by omega)
        rcases Nat.lt_or_ge i (m - 1) with h2 | h2
        · have := hm i (m - 1) h2 (by omega); omega
        · obtain rfl : i = m - 1 := by omega
          omega
      · rw [List.mem_append, List.mem_singleton, ih2]
        constructor
        · rintro (⟨i, hi, e⟩ | rfl)
          · exact ⟨i, by omega, e⟩
          · exact ⟨m, by omega, rfl⟩
        · rintro ⟨i, hi, e⟩
          rcases Nat.lt_or_ge i m with h2 | h2
          · exact .inl ⟨i, h2, e⟩
          · obtain rfl : i = m := by omega
            exact .inr e.symm
    · rw [if_neg hk, List.append_nil]
      refine ⟨ih1, fun v => ?_⟩
      rw [ih2]
      have hpos : 0 < m := by
        rcases Nat.eq_zero_or_pos m with h0 | h0
        · subst h0; exact absurd (Lib.keeps_lt_one zs.toArray 0 (by omega)) hk
        · exact h0
      have heq : gi zs m = gi zs (m - 1) := by
        refine Decidable.byContradiction fun hne => hk ?_
        exact Lib.keeps_pos (by rw [hg m (by omega), hg (m - 1) (by omega)]; exact hne)
      constructor
      · rintro ⟨i, hi, e⟩
        exact ⟨i, by omega, e⟩
      · rintro ⟨i, hi, e⟩
        rcases Nat.lt_or_ge i m with h2 | h2
        · exact ⟨i, h2, e⟩
        · obtain rfl : i = m := by omega
          exact ⟨i - 1, by omega, by rw [← heq]; exact e⟩

/-- The numbers once, in ascending order. -/
def onceI (zs : List Int) : List Int := Lib.compact zs
theorem onceI_nil : onceI [] = [] := rfl
theorem once_strict {zs : List Int} (h : ascB zs = true) : (onceI zs).Pairwise (· < ·) := (compactUpTo_asc h _ (Nat.le_refl _)).1
theorem once_mem {zs : List Int} (h : ascB zs = true) (v : Int) : v ∈ onceI zs ↔ v ∈ zs := by
  unfold onceI Lib.compact
  rw [(compactUpTo_asc h _ (Nat.le_refl _)).2 v]
  constructor
  · rintro ⟨i, hi, rfl⟩; exact gi_mem hi
  · intro hv
    obtain ⟨j, hj, rfl⟩ := List.mem_iff_getElem.1 hv
    exact ⟨j, hj, gi_eq hj⟩
theorem length_once (zs : List Int) : (onceI zs).length ≤ zs.length := by
  unfold onceI Lib.compact Lib.compactUpTo
  rw [List.length_map]
  exact Nat.le_trans (List.length_filter_le _ _) (by simp)
theorem once_lt {zs : List Int} (h : ascB zs = true) {i : Nat} (hi : i + 1 < (onceI zs).length) : gi (onceI zs) i < gi (onceI zs) (i + 1) := by
  rw [gi_eq (by omega), gi_eq hi]
  exact List.pairwise_iff_getElem.1 (once_strict h) i (i + 1) (by omega) hi (by omega)
theorem once_count {zs : List Int} (h : ascB zs = true) {v : Int} (hv : v ∈ zs) : (onceI zs).count v = 1 := by
  have hn : (onceI zs).Nodup := (once_strict h).imp (fun h => by omega)
  rw [List.Nodup.count hn, if_pos ((once_mem h v).2 hv)]
end Go.Proofs.Ytnondbhmoflpjaa
