/- Plain lemmas: the first and the last number of a sorted list. No program in sight. -/
import Derived.Test.YtnondbhmoflpjaaSortPlain
import Derived.Test.YtnondbhmoflpjaaMaxPlain
namespace Go.Proofs.Ytnondbhmoflpjaa

theorem first_min {zs : List Int} (h0 : 0 < zs.length) : gi (sortI zs) 0 = minI zs := by
  have hl := length_sortI zs
  refine IsMin.unique (zs := zs) ⟨(perm_sortI zs).subset (gi_mem (by omega)), fun z hz => ?_⟩ (isMin_minI (by rintro rfl; simp at h0))
  obtain ⟨j, hj, rfl⟩ := mem_iff_gi.1 ((perm_sortI zs).symm.subset hz)
  rcases Nat.eq_zero_or_pos j with h | h
  · subst h; exact Int.le_refl _
  · exact (ascB_iff _).1 (asc_sortI zs) 0 j h hj
theorem last_max {zs : List Int} (h0 : 0 < zs.length) : gi (sortI zs) ((sortI zs).length - 1) = maxI zs := by
  have hl := length_sortI zs
  refine IsMax.unique (zs := zs) ⟨(perm_sortI zs).subset (gi_mem (by omega)), fun z hz => ?_⟩ (isMax_maxI (by rintro rfl; simp at h0))
  obtain ⟨j, hj, rfl⟩ := mem_iff_gi.1 ((perm_sortI zs).symm.subset hz)
  rcases Nat.lt_or_ge j ((sortI zs).length - 1) with h | h
  · exact (ascB_iff _).1 (asc_sortI zs) j _ h (by omega)
  · obtain rfl : j = (sortI zs).length - 1 := by omega
    exact Int.le_refl _
end Go.Proofs.Ytnondbhmoflpjaa
