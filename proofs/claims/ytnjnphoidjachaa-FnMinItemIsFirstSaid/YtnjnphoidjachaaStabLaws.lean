/- Plain laws of stable sorts of items. No program in sight. -/
import Derived.Test.YtnjnphoidjachaaCmpItems
import Derived.Test.YtnjnphoidjachaaIsort
import Derived.Test.YtnjnphoidjachaaSameItems
import Derived.Test.YtnjnphoidjachaaFirstPlain
namespace Go.Proofs.Ytnjnphoidjachaa

/-- Equal elements keep what holds of the list's pairs. -/
theorem StableOf.pairs {α : Type} {lt : α → α → Bool} {xs ys : List α} {R : α → α → Prop} (h : StableOf lt xs ys) (W : Weak lt (· ∈ xs)) (hR : xs.Pairwise R) : ys.Pairwise (fun a b => lt b a = false ∧ (eqv lt a b = true → R a b)) := by
  refine List.pairwise_iff_forall_sublist.2 (fun {a b} hab => ⟨List.pairwise_iff_forall_sublist.1 h.srt hab, fun e => ?_⟩)
  have ha : a ∈ xs := h.mem a (hab.subset (by simp))
  have h1 : ([a, b].filter (eqv lt a)).Sublist (ys.filter (eqv lt a)) := hab.filter _
  rw [h.keep a ha] at h1
  have h2 : [a, b].filter (eqv lt a) = [a, b] := by simp [W.eqv_refl ha, e]
  rw [h2] at h1
  exact List.pairwise_iff_forall_sublist.1 hR (h1.trans List.filter_sublist)
theorem eqv_K {a b : Int × Int} (h : a.1 = b.1) : eqv ltK a b = true := eqv_iff.2 ⟨by simp [ltK]; omega, by simp [ltK]; omega⟩

/-- Items with ascending keys are their own stable sort. -/
theorem isort_asc {zs : List (Int × Int)} (h : ascB (keys zs) = true) : isort ltK zs = zs := by
  refine (stable_isort (weak_K _)).unique (StableOf.self ?_) (weak_K _)
  unfold ascB keys at h
  rw [decide_eq_true_iff, List.pairwise_map] at h
  exact h.imp (fun {a b} hab => by simp [ltK]; exact hab)
/-- Sorted by keys, and ahead of it by tags. -/
theorem isort_whole {zs ys : List (Int × Int)} (hp : ys.Perm zs) (hR : ys.Pairwise (fun a b => a.2 ≤ b.2)) : isort ltK ys = isort ltW zs := by
  have h := (stable_isort (lt := ltK) (xs := ys) (weak_K _)).pairs (weak_K _) hR
  have hs : Srt ltW (isort ltK ys) := h.imp (fun {a b} hab => by
    have h1 := hab.1
    have h2 := hab.2
    simp only [ltK, decide_eq_false_iff_not] at h1
    simp only [ltW, decide_eq_false_iff_not]
    rintro (h3 | ⟨h3, h4⟩)
    · exact h1 h3
    · have := h2 (eqv_K h3.symm)
      omega)
  have hq : (isort ltK ys).Perm zs := (isort_perm ys).trans hp
  exact (StableOf.of_total (weak_W _) (fun a b _ _ h k => tot_W a b h k) hq hs).unique (stable_isort (weak_W _)) (weak_W _)
theorem twice_is (zs : List (Int × Int)) : isort ltK (turn (isort ltK (turn zs))) = isort ltW zs := by
  refine isort_whole ?_ ?_
  · have := (isort_perm (lt := ltK) (turn zs)).map (fun p : Int × Int => (p.2, p.1))
    refine this.trans ?_
    have e : (turn zs).map (fun p : Int × Int => (p.2, p.1)) = zs := by
      unfold turn
      rw [List.map_map, show ((fun p : Int × Int => (p.2, p.1)) ∘ fun p : Int × Int => (p.2, p.1)) = id from rfl, List.map_id]
    rw [e]
  · unfold turn
    rw [List.pairwise_map]
    exact (stable_isort (lt := ltK) (xs := turn zs) (weak_K _)).srt.imp (fun {a b} hab => by simp [ltK] at hab; exact hab)
theorem numb_pair (zs : List Int) : (numb zs).Pairwise (fun a b => a.2 < b.2) := by
  rw [List.pairwise_iff_getElem]
  intro i j hi hj hij
  simp [numb]
  exact hij
theorem numb_is (zs : List Int) : isort ltK (numb zs) = isort ltW (numb zs) := isort_whole (List.Perm.refl _) ((numb_pair zs).imp (fun h => Int.le_of_lt h))
/-- Neighbours behind a stable sort of numbered items. -/
theorem numb_next {zs : List Int} {i : Nat} (h : i + 1 < (isort ltK (numb zs)).length) : ¬ gk (isort ltK (numb zs)) (i + 1) < gk (isort ltK (numb zs)) i ∧ (gk (isort ltK (numb zs)) (i + 1) = gk (isort ltK (numb zs)) i → ¬ gt (isort ltK (numb zs)) (i + 1) ≤ gt (isort ltK (numb zs)) i) := by
  have hp := (stable_isort (lt := ltK) (xs := numb zs) (weak_K _)).pairs (weak_K _) (numb_pair zs)
  have := List.pairwise_iff_getElem.1 hp i (i + 1) (by omega) h (by omega)
  rw [gk_eq h, gk_eq (by omega), gt_eq h, gt_eq (by omega)]
  refine ⟨by have := this.1; simpa [ltK] using this, fun e => ?_⟩
  have := this.2 (eqv_K e.symm)
  omega

theorem at_first {zs : List (Int × Int)} {i : Nat} (hi : i < zs.length) (he : ∀ j, j < i → gk zs j ≠ gk zs i) : (isort ltK zs)[lessC ltK zs (gk zs i, gt zs i)]? = some (gk zs i, gt zs i) := by
  have hS := stable_isort (lt := ltK) (xs := zs) (weak_K _)
  have hv : zs[i]? = some (gk zs i, gt zs i) := by rw [List.getElem?_eq_getElem hi, pair_eq hi]
  have := hS.at_rk (weak_K _) hv
  unfold rk at this
  have e : ((zs.take i).filter (eqv ltK (gk zs i, gt zs i))).length = 0 := by
    rw [List.length_eq_zero_iff, List.filter_eq_nil_iff]
    intro a ha hq
    obtain ⟨j, hj, rfl⟩ := List.mem_take_iff_getElem.1 ha
    have hj' : j < i := by omega
    have hq' := eqv_iff.1 hq
    simp only [ltK, decide_eq_false_iff_not] at hq'
    have h1 := he j hj'
    rw [gk_eq (show j < zs.length by omega)] at h1
    omega
  rw [e, Nat.add_zero] at this
  exact this
theorem first_min {zs : List (Int × Int)} {i : Nat} (h : FMin zs zs.length i) : (isort ltK zs)[0]? = some (gk zs i, gt zs i) := by
  have := at_first h.1 (fun j hj => by have := h.2.2 j hj; omega)
  have e : lessC ltK zs (gk zs i, gt zs i) = 0 := List.countP_eq_zero.2 (fun a ha => by
    obtain ⟨j, hj, rfl⟩ := List.mem_iff_getElem.1 ha
    have := h.2.1 j hj
    rw [gk_eq hj] at this
    simp [ltK]
    omega)
  rwa [e] at this
theorem gk_of {zs : List (Int × Int)} {i : Nat} {v : Int × Int} (h : zs[i]? = some v) : gk zs i = v.1 := by simp [gk, List.getD, h]
theorem gt_of {zs : List (Int × Int)} {i : Nat} {v : Int × Int} (h : zs[i]? = some v) : gt zs i = v.2 := by simp [gt, List.getD, h]
theorem first_max {zs : List (Int × Int)} {i k : Nat} (h : FMax zs zs.length i) (hk : k < zs.length) (h1 : ∀ j, k ≤ j → j < zs.length → gk (isort ltK zs) j = gk (isort ltK zs) (zs.length - 1)) (h2 : k = 0 ∨ gk (isort ltK zs) (k - 1) ≠ gk (isort ltK zs) (zs.length - 1)) :
    (isort ltK zs)[k]? = some (gk zs i, gt zs i) := by
  have hS := stable_isort (lt := ltK) (xs := zs) (weak_K _)
  have hl := hS.perm.length_eq
  have hr := at_first h.1 (fun j hj => by have := h.2.2 j hj; omega)
  obtain ⟨r, hrr⟩ : ∃ r, lessC ltK zs (gk zs i, gt zs i) = r := ⟨_, rfl⟩
  rw [hrr] at hr
  have hrl : r < zs.length := by rw [← hl]; exact (List.getElem?_eq_some_iff.1 hr).1
  have mono : ∀ p q, p ≤ q → q < zs.length → gk (isort ltK zs) p ≤ gk (isort ltK zs) q := fun p q hpq hq => by
    rcases Nat.eq_or_lt_of_le hpq with rfl | hpq
    · exact Int.le_refl _
    · have := List.pairwise_iff_getElem.1 hS.srt p q (by omega) (by omega) hpq
      rw [gk_eq (by omega), gk_eq (by omega)]
      simpa [ltK] using this
  have hM : gk (isort ltK zs) (zs.length - 1) = gk zs i := by
    refine Int.le_antisymm ?_ ?_
    · have hm : (isort ltK zs)[zs.length - 1]'(by omega) ∈ zs := hS.mem _ (List.getElem_mem _)
      obtain ⟨j, hj, hje⟩ := List.mem_iff_getElem.1 hm
      have := h.2.1 j hj
      rw [gk_eq hj, hje] at this
      rw [gk_eq (by omega)]
      exact this
    · have := mono r (zs.length - 1) (by omega) (by omega)
      rw [gk_of hr] at this
      exact this
  have e1 : ¬ r < k := fun hlt => by
    have h3 := h2.resolve_left (by omega)
    have h4 := mono r (k - 1) (by omega) (by omega)
    have h5 := mono (k - 1) (zs.length - 1) (by omega) (by omega)
    rw [gk_of hr] at h4
    simp only at h4
    omega
  have hv : (isort ltK zs)[k]? = some ((isort ltK zs)[k]'(by omega)) := List.getElem?_eq_getElem _
  have hp := place_of (weak_K _) (isort ltK zs) hS.mem hS.srt k _ hv
  have e2 : lessC ltK (isort ltK zs) ((isort ltK zs)[k]'(by omega)) = r := by
    rw [hS.less, ← hrr]
    unfold lessC
    congr 1
    funext a
    have := h1 k (Nat.le_refl _) hk
    rw [hM, gk_eq (by omega)] at this
    simp [ltK, this]
  rw [e2] at hp
  obtain rfl : r = k := by omega
  exact hr
end Go.Proofs.Ytnjnphoidjachaa
