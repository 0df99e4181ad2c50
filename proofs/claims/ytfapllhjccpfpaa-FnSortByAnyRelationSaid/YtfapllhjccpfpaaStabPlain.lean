/- Plain lemmas on stable sorting by a strict weak order of the list's elements: there is one such list, and each element's place in it is told by counting. No program in sight. -/
import Derived.Test.YtfapllhjccpfpaaBase
namespace Go.Proofs.Ytfapllhjccpfpaa

/-- A strict weak order of the elements that S tells. -/
structure Weak {α : Type} (lt : α → α → Bool) (S : α → Prop) : Prop where
  asym : ∀ a b, S a → S b → lt a b = true → lt b a = false
  neg : ∀ a b c, S a → S b → S c → lt b a = false → lt c b = false → lt c a = false
/-- No element comes before one ahead of it. -/
def Srt {α : Type} (lt : α → α → Bool) (ys : List α) : Prop := ys.Pairwise (fun a b => lt b a = false)
/-- Neither comes before the other. -/
def eqv {α : Type} (lt : α → α → Bool) (a b : α) : Bool := !lt a b && !lt b a
/-- ys is xs in order, equal elements as they were. -/
structure StableOf {α : Type} (lt : α → α → Bool) (xs ys : List α) : Prop where
  perm : ys.Perm xs
  srt : Srt lt ys
  keep : ∀ v, v ∈ xs → ys.filter (eqv lt v) = xs.filter (eqv lt v)
/-- How many come before v. -/
def lessC {α : Type} (lt : α → α → Bool) (ys : List α) (v : α) : Nat := ys.countP (fun a => lt a v)

section
variable {α : Type} {lt : α → α → Bool} {S : α → Prop}
theorem Weak.irr (W : Weak lt S) {a : α} (h : S a) : lt a a = false := by
  cases e : lt a a with
  | false => rfl
  | true => have := W.asym a a h h e; rw [e] at this; cases this
theorem Weak.mono {T : α → Prop} (W : Weak lt S) (h : ∀ a, T a → S a) : Weak lt T :=
  ⟨fun a b ha hb => W.asym a b (h a ha) (h b hb), fun a b c ha hb hc => W.neg a b c (h a ha) (h b hb) (h c hc)⟩
theorem Weak.trans (W : Weak lt S) {a b c : α} (ha : S a) (hb : S b) (hc : S c) (h : lt a b = true) (k : lt b c = true) : lt a c = true := by
  cases e : lt a c with
  | true => rfl
  | false =>
    have h1 := W.asym a b ha hb h
    have := W.neg c a b hc ha hb e h1
    rw [k] at this; cases this
theorem eqv_iff {a b : α} : eqv lt a b = true ↔ lt a b = false ∧ lt b a = false := by unfold eqv; cases lt a b <;> cases lt b a <;> simp
theorem eqv_false {a b : α} : eqv lt a b = false ↔ lt a b = true ∨ lt b a = true := by unfold eqv; cases lt a b <;> cases lt b a <;> simp
theorem Weak.eqv_refl (W : Weak lt S) {a : α} (h : S a) : eqv lt a a = true := eqv_iff.2 ⟨W.irr h, W.irr h⟩

theorem at_eqv (W : Weak lt S) {v : α} (hv : S v) : ∀ (ys : List α), (∀ a ∈ ys, S a) → Srt lt ys → ∀ t, t < (ys.filter (eqv lt v)).length → ys[lessC lt ys v + t]? = (ys.filter (eqv lt v))[t]?
  | [], _, _, t, ht => by simp at ht
  | a :: l, hS, hs, t, ht => by
    have ha : S a := hS a (by simp)
    have hl : ∀ b ∈ l, S b := fun b hb => hS b (by simp [hb])
    have hs' : Srt lt l := (List.pairwise_cons.1 hs).2
    have hal : ∀ b ∈ l, lt b a = false := (List.pairwise_cons.1 hs).1
    have ih := at_eqv W hv l hl hs'
    by_cases h1 : lt a v = true
    · have e1 : lessC lt (a :: l) v = lessC lt l v + 1 := by simp [lessC, h1]
      have e2 : eqv lt v a = false := eqv_false.2 (.inr h1)
      have e3 : (a :: l).filter (eqv lt v) = l.filter (eqv lt v) := by simp [e2]
      rw [e3] at ht ⊢
      rw [e1, show lessC lt l v + 1 + t = (lessC lt l v + t) + 1 by omega, List.getElem?_cons_succ]
      exact ih t ht
    · have h1' : lt a v = false := by simpa using h1
      have e0 : lessC lt l v = 0 := List.countP_eq_zero.2 (fun b hb => by
        have := W.neg v a b hv ha (hl b hb) h1' (hal b hb)
        simp [this])
      have e1 : lessC lt (a :: l) v = 0 := by
        have : lessC lt (a :: l) v = lessC lt l v := by simp [lessC, h1']
        rw [this, e0]
      rw [e1, Nat.zero_add]
      by_cases h2 : lt v a = true
      · exfalso
        have e4 : (a :: l).filter (eqv lt v) = [] := by
          rw [List.filter_eq_nil_iff]
          intro b hb
          rcases List.mem_cons.1 hb with rfl | hb
          · simp [eqv, h2]
          · have h3 : lt v b = true := by
              cases e : lt v b with
              | true => rfl
              | false =>
                have := W.neg a b v ha (hl b hb) hv (hal b hb) e
                rw [h2] at this; cases this
            simp [eqv, h3]
        rw [e4] at ht
        simp at ht
      · have h2' : lt v a = false := by simpa using h2
        have e2 : eqv lt v a = true := eqv_iff.2 ⟨h2', h1'⟩
        have e3 : (a :: l).filter (eqv lt v) = a :: l.filter (eqv lt v) := by simp [e2]
        rw [e3] at ht ⊢
        match t with
        | 0 => rfl
        | t + 1 =>
          rw [List.getElem?_cons_succ, List.getElem?_cons_succ]
          have := ih t (by simpa using ht)
          rw [e0, Nat.zero_add] at this
          exact this

theorem nth_filter {p : α → Bool} : ∀ (xs : List α) (j : Nat) (x : α), xs[j]? = some x → p x = true → (xs.filter p)[((xs.take j).filter p).length]? = some x
  | [], _, _, h, _ => by simp at h
  | a :: l, 0, x, h, hp => by
    simp at h
    subst h
    simp [hp]
  | a :: l, j + 1, x, h, hp => by
    have ih := nth_filter l j x (by simpa using h) hp
    by_cases ha : p a = true
    · simpa [ha] using ih
    · simpa [ha] using ih
theorem of_nth {p : α → Bool} : ∀ (xs : List α) (t : Nat), t < (xs.filter p).length → ∃ j x, xs[j]? = some x ∧ p x = true ∧ ((xs.take j).filter p).length = t
  | [], t, ht => by simp at ht
  | a :: l, t, ht => by
    by_cases ha : p a = true
    · match t with
      | 0 => exact ⟨0, a, rfl, ha, by simp⟩
      | t + 1 =>
        obtain ⟨j, x, h1, h2, h3⟩ := of_nth l t (by simpa [ha] using ht)
        exact ⟨j + 1, x, by simpa using h1, h2, by simp [ha, h3]⟩
    · obtain ⟨j, x, h1, h2, h3⟩ := of_nth l t (by simpa [ha] using ht)
      exact ⟨j + 1, x, by simpa using h1, h2, by simp [ha, h3]⟩

/-- The place of an element of a sorted list: behind those that come before it and the equal ones ahead of it. -/
theorem place_of (W : Weak lt S) : ∀ (ys : List α), (∀ a ∈ ys, S a) → Srt lt ys → ∀ (p : Nat) (v : α), ys[p]? = some v → p = lessC lt ys v + ((ys.take p).filter (eqv lt v)).length
  | [], _, _, _, _, h => by simp at h
  | a :: l, hS, hs, 0, v, h => by
    simp at h
    subst h
    have hal : ∀ b ∈ l, lt b a = false := (List.pairwise_cons.1 hs).1
    have : lessC lt (a :: l) a = 0 := List.countP_eq_zero.2 (fun b hb => by
      rcases List.mem_cons.1 hb with rfl | hb
      · simp [W.irr (hS b (by simp))]
      · simp [hal b hb])
    simp [this]
  | a :: l, hS, hs, p + 1, v, h => by
    have hs' : Srt lt l := (List.pairwise_cons.1 hs).2
    have hal : ∀ b ∈ l, lt b a = false := (List.pairwise_cons.1 hs).1
    have h' : l[p]? = some v := by simpa using h
    have ih := place_of W l (fun b hb => hS b (by simp [hb])) hs' p v h'
    have hva : lt v a = false := hal v (List.mem_of_getElem? h')
    by_cases h1 : lt a v = true
    · have e1 : lessC lt (a :: l) v = lessC lt l v + 1 := by simp [lessC, h1]
      have e2 : eqv lt v a = false := eqv_false.2 (.inr h1)
      rw [e1, List.take_succ_cons, List.filter_cons, if_neg (by simp [e2])]
      omega
    · have h1' : lt a v = false := by simpa using h1
      have e1 : lessC lt (a :: l) v = lessC lt l v := by simp [lessC, h1']
      have e2 : eqv lt v a = true := eqv_iff.2 ⟨hva, h1'⟩
      rw [e1, List.take_succ_cons, List.filter_cons, if_pos e2, List.length_cons]
      omega

theorem StableOf.mem {xs ys : List α} (h : StableOf lt xs ys) (a : α) (ha : a ∈ ys) : a ∈ xs := h.perm.mem_iff.1 ha
theorem StableOf.less {xs ys : List α} (h : StableOf lt xs ys) (v : α) : lessC lt ys v = lessC lt xs v := h.perm.countP_eq _

/-- The place of element j of the list in the sorted one. -/
def rk (lt : α → α → Bool) (xs : List α) (v : α) (j : Nat) : Nat := lessC lt xs v + ((xs.take j).filter (eqv lt v)).length
theorem StableOf.at_rk {xs ys : List α} (h : StableOf lt xs ys) (W : Weak lt (· ∈ xs)) {j : Nat} {v : α} (hj : xs[j]? = some v) : ys[rk lt xs v j]? = some v := by
  have hv : v ∈ xs := List.mem_of_getElem? hj
  have e1 := nth_filter (p := eqv lt v) xs j v hj (W.eqv_refl hv)
  have hlt : ((xs.take j).filter (eqv lt v)).length < (ys.filter (eqv lt v)).length := by
    rw [h.keep v hv]
    rcases Nat.lt_or_ge ((xs.take j).filter (eqv lt v)).length (xs.filter (eqv lt v)).length with h1 | h1
    · exact h1
    · rw [List.getElem?_eq_none h1] at e1; cases e1
  have := at_eqv W hv ys h.mem h.srt _ hlt
  rw [h.keep v hv, e1, h.less] at this
  exact this
theorem StableOf.onto {xs ys : List α} (h : StableOf lt xs ys) (W : Weak lt (· ∈ xs)) {p : Nat} (hp : p < xs.length) : ∃ j v, xs[j]? = some v ∧ ys[p]? = some v ∧ rk lt xs v j = p := by
  have hl := h.perm.length_eq
  obtain ⟨v, hv⟩ : ∃ v, ys[p]? = some v := ⟨ys[p]'(by omega), List.getElem?_eq_getElem (by omega)⟩
  have hvm : v ∈ xs := h.mem v (List.mem_of_getElem? hv)
  have h1 := place_of W ys h.mem h.srt p v hv
  have h2 := nth_filter (p := eqv lt v) ys p v hv (W.eqv_refl hvm)
  have hlt : ((ys.take p).filter (eqv lt v)).length < (ys.filter (eqv lt v)).length := by
    rcases Nat.lt_or_ge ((ys.take p).filter (eqv lt v)).length (ys.filter (eqv lt v)).length with h1 | h1
    · exact h1
    · rw [List.getElem?_eq_none h1] at h2; cases h2
  rw [h.keep v hvm] at h2 hlt
  obtain ⟨j, x, hx, hpx, ht⟩ := of_nth (p := eqv lt v) xs _ hlt
  have h3 := nth_filter (p := eqv lt v) xs j x hx hpx
  rw [ht, h2] at h3
  cases h3
  refine ⟨j, v, hx, hv, ?_⟩
  unfold rk
  rw [ht, ← h.less]
  exact h1.symm
theorem StableOf.rk_lt {xs ys : List α} (h : StableOf lt xs ys) (W : Weak lt (· ∈ xs)) {j : Nat} {v : α} (hj : xs[j]? = some v) : rk lt xs v j < xs.length := by
  have := h.at_rk W hj
  rw [← h.perm.length_eq]
  exact (List.getElem?_eq_some_iff.1 this).1
/-- Whatever holds each element at its place is the sorted list. -/
theorem StableOf.ranked {β : Type} {xs ys : List α} (h : StableOf lt xs ys) (W : Weak lt (· ∈ xs)) {f : Nat → β} {g : α → β} (hf : ∀ j v, xs[j]? = some v → f (rk lt xs v j) = g v) {p : Nat} {v : α} (hp : ys[p]? = some v) : f p = g v := by
  have hlt : p < xs.length := by rw [← h.perm.length_eq]; exact (List.getElem?_eq_some_iff.1 hp).1
  obtain ⟨j, u, hj, hu, hr⟩ := h.onto W hlt
  rw [hu] at hp
  cases hp
  rw [← hr]
  exact hf j _ hj
/-- There is one. -/
theorem StableOf.unique {xs ys zs : List α} (h : StableOf lt xs ys) (k : StableOf lt xs zs) (W : Weak lt (· ∈ xs)) : ys = zs := by
  apply List.ext_getElem?
  intro p
  by_cases hp : p < xs.length
  · obtain ⟨v, hv⟩ : ∃ v, ys[p]? = some v := ⟨ys[p]'(by rw [h.perm.length_eq]; exact hp), List.getElem?_eq_getElem _⟩
    rw [hv]
    exact (h.ranked W (f := fun p => zs[p]?) (g := some) (fun j v hj => k.at_rk W hj) hv).symm
  · rw [List.getElem?_eq_none (by rw [h.perm.length_eq]; omega), List.getElem?_eq_none (by rw [k.perm.length_eq]; omega)]

/-- Where equal elements are one, order alone will do. -/
theorem filter_eq_replicate [DecidableEq α] (p : α → Bool) (v : α) : ∀ (xs : List α), (∀ a ∈ xs, p a = true ↔ a = v) → xs.filter p = List.replicate (xs.count v) v
  | [], _ => rfl
  | a :: l, h => by
    have ih := filter_eq_replicate p v l (fun b hb => h b (by simp [hb]))
    by_cases e : a = v
    · subst e
      rw [List.filter_cons, if_pos ((h a (by simp)).2 rfl), List.count_cons_self, List.replicate_succ, ih]
    · rw [List.filter_cons, if_neg (fun hp => e ((h a (by simp)).1 hp)), List.count_cons_of_ne (by simpa using e), ih]
theorem StableOf.of_total [DecidableEq α] {xs ys : List α} (W : Weak lt (· ∈ xs)) (htot : ∀ a b, a ∈ xs → b ∈ xs → lt a b = false → lt b a = false → a = b) (hp : ys.Perm xs) (hs : Srt lt ys) : StableOf lt xs ys :=
  ⟨hp, hs, fun v hv => by
    have hx : ∀ a ∈ xs, eqv lt v a = true ↔ a = v := fun a ha => ⟨fun h => by
      have := eqv_iff.1 h
      exact (htot v a hv ha this.1 this.2).symm, fun h => by subst h; exact W.eqv_refl ha⟩
    rw [filter_eq_replicate _ v ys (fun a ha => hx a (hp.mem_iff.1 ha)), filter_eq_replicate _ v xs hx, hp.count_eq]⟩
/-- A list in order is its own stable sort. -/
theorem StableOf.self {xs : List α} (h : Srt lt xs) : StableOf lt xs xs := ⟨List.Perm.refl _, h, fun _ _ => rfl⟩

/-- The count that the reference makes for element i (v), over the first a. -/
def cntG (lt : α → α → Bool) (xs : List α) (v : α) (i a : Nat) : Nat := lessC lt (xs.take a) v + ((xs.take (min a i)).filter (eqv lt v)).length
theorem cntG_zero (lt : α → α → Bool) (xs : List α) (v : α) (i : Nat) : cntG lt xs v i 0 = 0 := by simp [cntG, lessC]
theorem cntG_done (lt : α → α → Bool) (xs : List α) (v : α) {i : Nat} (hi : i ≤ xs.length) : cntG lt xs v i xs.length = rk lt xs v i := by
  unfold cntG rk
  rw [List.take_of_length_le (Nat.le_refl _), Nat.min_eq_right hi]
theorem cntG_le (lt : α → α → Bool) (xs : List α) (v : α) (i a : Nat) : cntG lt xs v i a ≤ a := by
  unfold cntG lessC
  have h1 : ((xs.take (min a i)).filter (eqv lt v)).length ≤ ((xs.take a).filter (eqv lt v)).length :=
    ((List.take_sublist_take_left (Nat.min_le_left a i)).filter _).length_le
  have h2 : (xs.take a).countP (fun b => lt b v) + ((xs.take a).filter (eqv lt v)).length ≤ (xs.take a).length := by
    rw [← List.countP_eq_length_filter]
    generalize xs.take a = l
    induction l with
    | nil => simp
    | cons b l ih =>
      simp only [List.countP_cons, List.length_cons]
      cases hb : lt b v <;> cases hb' : eqv lt v b <;> simp_all [eqv] <;> omega
  have h3 : (xs.take a).length ≤ a := by simp; omega
  omega
theorem cntG_step (lt : α → α → Bool) {xs : List α} (v : α) (i : Nat) {a : Nat} {u : α} (h : xs[a]? = some u) :
    cntG lt xs v i (a + 1) = cntG lt xs v i a + if lt u v = true ∨ (lt v u = false ∧ a < i) then 1 else 0 := by
  have ha : a < xs.length := (List.getElem?_eq_some_iff.1 h).1
  have hu : xs[a] = u := (List.getElem?_eq_some_iff.1 h).2
  have ht : xs.take (a + 1) = xs.take a ++ [u] := by rw [List.take_succ_eq_append_getElem ha, hu]
  unfold cntG lessC
  rw [ht, List.countP_append]
  by_cases hai : a < i
  · rw [Nat.min_eq_left (show a + 1 ≤ i by omega), Nat.min_eq_left (show a ≤ i by omega), ht, List.filter_append, List.length_append]
    cases h1 : lt u v <;> cases h2 : lt v u <;> simp [eqv, h1, h2, hai] <;> omega
  · rw [Nat.min_eq_right (show i ≤ a + 1 by omega), Nat.min_eq_right (show i ≤ a by omega)]
    cases h1 : lt u v <;> simp [h1, hai] <;> omega
end
end Go.Proofs.Ytfapllhjccpfpaa
