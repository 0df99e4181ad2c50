/- Plain lemmas: there is a stable sort of every list. No program in sight. -/
import Derived.Test.YtfapllhjccpfpaaStabPlain
namespace Go.Proofs.Ytfapllhjccpfpaa
section
variable {α : Type} {lt : α → α → Bool}
/-- x put into a sorted list, ahead of its equals. -/
def insS (lt : α → α → Bool) (x : α) : List α → List α
  | [] => [x]
  | y :: l => if lt y x = true then y :: insS lt x l else x :: y :: l
def isort (lt : α → α → Bool) : List α → List α
  | [] => []
  | x :: l => insS lt x (isort lt l)
theorem insS_perm (x : α) : ∀ l : List α, (insS lt x l).Perm (x :: l)
  | [] => List.Perm.refl _
  | y :: l => by
    unfold insS
    by_cases h : lt y x = true
    · rw [if_pos h]
      exact ((insS_perm x l).cons y).trans (List.Perm.swap x y l)
    · rw [if_neg h]
theorem isort_perm : ∀ l : List α, (isort lt l).Perm l
  | [] => List.Perm.refl _
  | x :: l => (insS_perm x (isort lt l)).trans ((isort_perm l).cons x)
theorem insS_srt {S : α → Prop} (W : Weak lt S) {x : α} (hx : S x) : ∀ l : List α, (∀ a ∈ l, S a) → Srt lt l → Srt lt (insS lt x l)
  | [], _, _ => List.pairwise_singleton _ _
  | y :: l, hS, hs => by
    have hy : S y := hS y (by simp)
    have hl : ∀ a ∈ l, S a := fun a ha => hS a (by simp [ha])
    have h1 := List.pairwise_cons.1 hs
    unfold insS
    by_cases h : lt y x = true
    · rw [if_pos h]
      refine List.pairwise_cons.2 ⟨fun a ha => ?_, insS_srt W hx l hl h1.2⟩
      rcases List.mem_cons.1 ((insS_perm x l).mem_iff.1 ha) with rfl | ha
      · exact W.asym _ _ hy hx h
      · exact h1.1 a ha
    · rw [if_neg h]
      have h' : lt y x = false := by simpa using h
      refine List.pairwise_cons.2 ⟨fun a ha => ?_, hs⟩
      rcases List.mem_cons.1 ha with rfl | ha
      · exact h'
      · exact W.neg x y a hx hy (hl a ha) h' (h1.1 a ha)
theorem insS_filter {S : α → Prop} (W : Weak lt S) {x v : α} (hx : S x) (hv : S v) : ∀ l : List α, (∀ a ∈ l, S a) → (insS lt x l).filter (eqv lt v) = (x :: l).filter (eqv lt v)
  | [], _ => rfl
  | y :: l, hS => by
    have hy : S y := hS y (by simp)
    have ih := insS_filter W hx hv l (fun a ha => hS a (by simp [ha]))
    unfold insS
    by_cases h : lt y x = true
    · rw [if_pos h]
      rw [List.filter_cons, ih, List.filter_cons, List.filter_cons, List.filter_cons]
      by_cases h1 : eqv lt v x = true
      · by_cases h2 : eqv lt v y = true
        · exfalso
          have e1 := eqv_iff.1 h1
          have e2 := eqv_iff.1 h2
          have := W.neg x v y hx hv hy e1.1 e2.2
          rw [h] at this; cases this
        · simp [h1, h2]
      · by_cases h2 : eqv lt v y = true <;> simp [h1, h2]
    · rw [if_neg h]
theorem isort_srt {S : α → Prop} (W : Weak lt S) : ∀ l : List α, (∀ a ∈ l, S a) → Srt lt (isort lt l)
  | [], _ => List.Pairwise.nil
  | x :: l, hS => insS_srt W (hS x (by simp)) _ (fun a ha => hS a (by simp [(isort_perm l).mem_iff.1 ha])) (isort_srt W l (fun a ha => hS a (by simp [ha])))
theorem isort_filter {S : α → Prop} (W : Weak lt S) {v : α} (hv : S v) : ∀ l : List α, (∀ a ∈ l, S a) → (isort lt l).filter (eqv lt v) = l.filter (eqv lt v)
  | [], _ => rfl
  | x :: l, hS => by
    have ih := isort_filter W hv l (fun a ha => hS a (by simp [ha]))
    show (insS lt x (isort lt l)).filter (eqv lt v) = _
    rw [insS_filter W (hS x (by simp)) hv _ (fun a ha => hS a (by simp [(isort_perm l).mem_iff.1 ha])), List.filter_cons, List.filter_cons, ih]
theorem stable_isort {xs : List α} (W : Weak lt (· ∈ xs)) : StableOf lt xs (isort lt xs) :=
  ⟨isort_perm xs, isort_srt W xs (fun _ h => h), fun _ hv => isort_filter W hv xs (fun _ h => h)⟩
end
end Go.Proofs.Ytfapllhjccpfpaa
