/- Plain lemmas on merging: what the library's stable sort does with lists. No program in sight. -/
import Derived.Test.YtfapllhjccpfpaaStabPlain
namespace Go.Proofs.Ytfapllhjccpfpaa
section
variable {α : Type} {lt : α → α → Bool} {S : α → Prop}

theorem Srt.left {xs ys : List α} (h : Srt lt (xs ++ ys)) : Srt lt xs := (List.pairwise_append.1 h).1
theorem Srt.right {xs ys : List α} (h : Srt lt (xs ++ ys)) : Srt lt ys := (List.pairwise_append.1 h).2.1
theorem Srt.cross {xs ys : List α} (h : Srt lt (xs ++ ys)) : ∀ x ∈ xs, ∀ y ∈ ys, lt y x = false := (List.pairwise_append.1 h).2.2

theorem StableOf.keep' {xs ys : List α} (h : StableOf lt xs ys) (W : Weak lt S) (hx : ∀ a ∈ xs, S a) {v : α} (hv : S v) : ys.filter (eqv lt v) = xs.filter (eqv lt v) := by
  by_cases he : xs.filter (eqv lt v) = []
  · have := (h.perm.filter (eqv lt v)).length_eq
    rw [he] at this ⊢
    exact List.eq_nil_of_length_eq_zero this
  · obtain ⟨u, hu⟩ := List.exists_mem_of_ne_nil _ he
    obtain ⟨hux, huv⟩ := List.mem_filter.1 hu
    have e := eqv_iff.1 huv
    have hS := hx u hux
    have hc : ∀ a, S a → eqv lt v a = eqv lt u a := fun a ha => by
      rw [Bool.eq_iff_iff, eqv_iff, eqv_iff]
      constructor
      · rintro ⟨h1, h2⟩
        exact ⟨W.neg a v u ha hv hS h1 e.2, W.neg u v a hS hv ha e.1 h2⟩
      · rintro ⟨h1, h2⟩
        exact ⟨W.neg a u v ha hS hv h1 e.1, W.neg v u a hv hS ha e.2 h2⟩
    rw [List.filter_congr (fun a ha => hc a (hx a (h.mem a ha))), h.keep u hux, List.filter_congr (fun a ha => (hc a (hx a ha)).symm)]

/-- L is Z, stably sorted, so far as the relation is an order of Z's elements. -/
def SO (lt : α → α → Bool) (Z L : List α) : Prop := L.Perm Z ∧ (Weak lt (· ∈ Z) → StableOf lt Z L)
/-- zs is xs and ys merged. -/
def Merged (lt : α → α → Bool) (xs ys zs : List α) : Prop := zs.Perm (xs ++ ys) ∧ (Weak lt (· ∈ xs ++ ys) → Srt lt xs → Srt lt ys → StableOf lt (xs ++ ys) zs)
theorem SO.refl_nil : SO lt [] [] := ⟨List.Perm.refl _, fun _ => StableOf.self List.Pairwise.nil⟩
theorem SO.length {Z L : List α} (h : SO lt Z L) : L.length = Z.length := h.1.length_eq
theorem Merged.nil_right (xs : List α) : Merged lt xs [] xs := ⟨by simp, fun _ h _ => by rw [List.append_nil]; exact StableOf.self h⟩
theorem Merged.nil_left (ys : List α) : Merged lt [] ys ys := ⟨by simp, fun _ _ h => StableOf.self h⟩
theorem SO.merge {Z1 L1 Z2 L2 zs : List α} (h1 : SO lt Z1 L1) (h2 : SO lt Z2 L2) (h : Merged lt L1 L2 zs) : SO lt (Z1 ++ Z2) zs := by
  have hp : (L1 ++ L2).Perm (Z1 ++ Z2) := h1.1.append h2.1
  refine ⟨h.1.trans hp, fun W => ?_⟩
  have s1 := h1.2 (W.mono (fun a ha => List.mem_append_left _ ha))
  have s2 := h2.2 (W.mono (fun a ha => List.mem_append_right _ ha))
  have s := h.2 (W.mono (fun a ha => hp.mem_iff.1 ha)) s1.srt s2.srt
  refine ⟨h.1.trans hp, s.srt, fun v hv => ?_⟩
  rw [s.keep v (hp.mem_iff.2 hv), List.filter_append, List.filter_append,
    s1.keep' W (fun a ha => List.mem_append_left _ ha) hv, s2.keep' W (fun a ha => List.mem_append_right _ ha) hv]

/-- The heart of the merge: two parts, each merged, one behind the other. -/
theorem Merged.sym {ul ur vl vr zl zr : List α} (hl : Merged lt ul vl zl) (hr : Merged lt ur vr zr)
    (h : Weak lt (· ∈ (ul ++ ur) ++ (vl ++ vr)) → Srt lt (ul ++ ur) → Srt lt (vl ++ vr) → (∀ x ∈ ul, ∀ y ∈ vr, lt y x = false) ∧ (∀ x ∈ vl, ∀ y ∈ ur, lt x y = true)) :
    Merged lt (ul ++ ur) (vl ++ vr) (zl ++ zr) := by
  have hp : (zl ++ zr).Perm ((ul ++ ur) ++ (vl ++ vr)) := by
    refine (hl.1.append hr.1).trans ?_
    rw [List.append_assoc, List.append_assoc]
    refine (List.Perm.refl ul).append ?_
    rw [← List.append_assoc, ← List.append_assoc]
    exact List.perm_append_comm.append_right vr
  refine ⟨hp, fun W su sv => ?_⟩
  obtain ⟨h1, h2⟩ := h W su sv
  have mU : ∀ a ∈ ul, a ∈ (ul ++ ur) ++ (vl ++ vr) := fun a ha => List.mem_append_left _ (List.mem_append_left _ ha)
  have mUr : ∀ a ∈ ur, a ∈ (ul ++ ur) ++ (vl ++ vr) := fun a ha => List.mem_append_left _ (List.mem_append_right _ ha)
  have mV : ∀ a ∈ vl, a ∈ (ul ++ ur) ++ (vl ++ vr) := fun a ha => List.mem_append_right _ (List.mem_append_left _ ha)
  have mVr : ∀ a ∈ vr, a ∈ (ul ++ ur) ++ (vl ++ vr) := fun a ha => List.mem_append_right _ (List.mem_append_right _ ha)
  have mL : ∀ a ∈ ul ++ vl, a ∈ (ul ++ ur) ++ (vl ++ vr) := fun a ha => by
    rcases List.mem_append.1 ha with ha | ha
    · exact mU a ha
    · exact mV a ha
  have mR : ∀ a ∈ ur ++ vr, a ∈ (ul ++ ur) ++ (vl ++ vr) := fun a ha => by
    rcases List.mem_append.1 ha with ha | ha
    · exact mUr a ha
    · exact mVr a ha
  have sl := hl.2 (W.mono mL) su.left sv.left
  have sr := hr.2 (W.mono mR) su.right sv.right
  refine ⟨hp, List.pairwise_append.2 ⟨sl.srt, sr.srt, fun x hx y hy => ?_⟩, fun v hv => ?_⟩
  · rcases List.mem_append.1 (sl.mem x hx) with hx' | hx'
    · rcases List.mem_append.1 (sr.mem y hy) with hy' | hy'
      · exact su.cross x hx' y hy'
      · exact h1 x hx' y hy'
    · rcases List.mem_append.1 (sr.mem y hy) with hy' | hy'
      · exact W.asym x y (mV x hx') (mUr y hy') (h2 x hx' y hy')
      · exact sv.cross x hx' y hy'
  · rw [List.filter_append, sl.keep' W mL hv, sr.keep' W mR hv]
    simp only [List.filter_append, List.append_assoc]
    congr 1
    by_cases e1 : vl.filter (eqv lt v) = []
    · rw [e1]; simp
    · by_cases e2 : ur.filter (eqv lt v) = []
      · rw [e2]; simp
      · exfalso
        obtain ⟨x, hx⟩ := List.exists_mem_of_ne_nil _ e1
        obtain ⟨y, hy⟩ := List.exists_mem_of_ne_nil _ e2
        obtain ⟨hx1, hx2⟩ := List.mem_filter.1 hx
        obtain ⟨hy1, hy2⟩ := List.mem_filter.1 hy
        have ex := eqv_iff.1 hx2
        have ey := eqv_iff.1 hy2
        have := W.neg y v x (mUr y hy1) hv (mV x hx1) ey.1 ex.2
        rw [h2 x hx1 y hy1] at this
        cases this

/-- Two that are not equal in the order are not both equal to a third. -/
theorem not_both (W : Weak lt S) {x u v : α} (hx : S x) (hu : S u) (hv : S v) (h : lt u x = true) (h1 : eqv lt v u = true) (h2 : eqv lt v x = true) : False := by
  have e1 := eqv_iff.1 h1
  have e2 := eqv_iff.1 h2
  have := W.neg x v u hx hv hu e2.1 e1.2
  rw [h] at this
  cases this
theorem filter_swap {us : List α} {x v : α} (h : ∀ u ∈ us, eqv lt v u = true → eqv lt v x = true → False) (vs : List α) : (us ++ ([x] ++ vs)).filter (eqv lt v) = ([x] ++ (us ++ vs)).filter (eqv lt v) := by
  simp only [List.filter_append]
  by_cases hx : eqv lt v x = true
  · have : us.filter (eqv lt v) = [] := List.filter_eq_nil_iff.2 (fun u hu hu' => h u hu hu' hx)
    rw [this]; simp
  · have : [x].filter (eqv lt v) = [] := by simp [hx]
    rw [this]; simp
/-- One element behind the lesser ones of a sorted list. -/
theorem Merged.one_left {x : α} {us vs : List α} (h : Weak lt (· ∈ [x] ++ (us ++ vs)) → Srt lt (us ++ vs) → (∀ u ∈ us, lt u x = true) ∧ (∀ v ∈ vs, lt v x = false)) : Merged lt [x] (us ++ vs) (us ++ ([x] ++ vs)) := by
  have hp : (us ++ ([x] ++ vs)).Perm ([x] ++ (us ++ vs)) := by
    rw [← List.append_assoc, ← List.append_assoc]
    exact List.perm_append_comm.append_right vs
  refine ⟨hp, fun W _ s => ?_⟩
  obtain ⟨h1, h2⟩ := h W s
  have mx : x ∈ [x] ++ (us ++ vs) := by simp
  have mu : ∀ u ∈ us, u ∈ [x] ++ (us ++ vs) := fun u hu => by simp [hu]
  refine ⟨hp, List.pairwise_append.2 ⟨s.left, List.pairwise_cons.2 ⟨fun v hv => h2 v hv, s.right⟩, fun u hu y hy => ?_⟩, fun v hv => ?_⟩
  · rcases List.mem_cons.1 hy with rfl | hy
    · exact W.asym _ _ (mu u hu) mx (h1 u hu)
    · exact s.cross u hu y hy
  · exact filter_swap (fun u hu e1 e2 => not_both W mx (mu u hu) hv (h1 u hu) e1 e2) vs
/-- One element ahead of the greater ones of a sorted list. -/
theorem Merged.one_right {x : α} {us vs : List α} (h : Weak lt (· ∈ (us ++ vs) ++ [x]) → Srt lt (us ++ vs) → (∀ u ∈ us, lt x u = false) ∧ (∀ v ∈ vs, lt x v = true)) : Merged lt (us ++ vs) [x] (us ++ ([x] ++ vs)) := by
  have hp : (us ++ ([x] ++ vs)).Perm ((us ++ vs) ++ [x]) := by
    rw [List.append_assoc]
    exact (List.Perm.refl us).append List.perm_append_comm
  refine ⟨hp, fun W s _ => ?_⟩
  obtain ⟨h1, h2⟩ := h W s
  have mx : x ∈ (us ++ vs) ++ [x] := by simp
  have mv : ∀ u ∈ vs, u ∈ (us ++ vs) ++ [x] := fun u hu => by simp [hu]
  refine ⟨hp, List.pairwise_append.2 ⟨s.left, List.pairwise_cons.2 ⟨fun v hv => W.asym _ _ mx (mv v hv) (h2 v hv), s.right⟩, fun u hu y hy => ?_⟩, fun v hv => ?_⟩
  · rcases List.mem_cons.1 hy with rfl | hy
    · exact h1 u hu
    · exact s.cross u hu y hy
  · have hv' : v ∈ (us ++ vs) ++ [x] := hv
    simp only [List.filter_append, List.append_assoc]
    congr 1
    by_cases hx : eqv lt v x = true
    · have : vs.filter (eqv lt v) = [] := List.filter_eq_nil_iff.2 (fun u hu hu' => not_both W (mv u hu) mx hv' (h2 u hu) hx hu')
      rw [this]; simp
    · have : [x].filter (eqv lt v) = [] := by simp [hx]
      rw [this]; simp
end
end Go.Proofs.Ytfapllhjccpfpaa
