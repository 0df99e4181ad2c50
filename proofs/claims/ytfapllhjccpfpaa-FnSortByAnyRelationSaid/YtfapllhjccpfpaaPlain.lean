/- Plain lemmas on lists of numbers: what it is to be ascending. No program in sight. -/
import Derived.Test.YtfapllhjccpfpaaBase
namespace Go.Proofs.Ytfapllhjccpfpaa

theorem eq_of_gi {xs ys : List Int} (hl : xs.length = ys.length) (h : ∀ j, j < xs.length → gi xs j = gi ys j) : xs = ys := by
  apply List.ext_getElem hl
  intro i h1 h2
  have := h i h1
  rwa [gi_eq h1, gi_eq h2] at this

theorem take_gi {zs : List Int} {k : Nat} (h : k < zs.length) : zs.take (k + 1) = zs.take k ++ [gi zs k] := by
  rw [List.take_succ_eq_append_getElem h, gi_eq h]

/-- No number is less than one ahead of it. -/
def ascB (zs : List Int) : Bool := decide (zs.Pairwise (· ≤ ·))
theorem ascB_iff (zs : List Int) : ascB zs = true ↔ ∀ i j, i < j → j < zs.length → gi zs i ≤ gi zs j := by
  unfold ascB
  rw [decide_eq_true_iff, List.pairwise_iff_getElem]
  constructor
  · intro h i j hij hj
    rw [gi_eq (by omega), gi_eq hj]
    exact h i j (by omega) hj hij
  · intro h i j hi hj hij
    have := h i j hij hj
    rwa [gi_eq hi, gi_eq hj] at this
theorem ascB_of_adj {zs : List Int} (h : ∀ i, i + 1 < zs.length → gi zs i ≤ gi zs (i + 1)) : ascB zs = true := by
  rw [ascB_iff]
  intro i j hij
  induction j with
  | zero => omega
  | succ j ih =>
    intro hj
    rcases Nat.lt_or_ge i j with h1 | h1
    · exact Int.le_trans (ih h1 (by omega)) (h j hj)
    · obtain rfl : i = j := by omega
      exact h i hj
theorem ascB_false {zs : List Int} {i j : Nat} (hij : i < j) (hj : j < zs.length) (h : gi zs j < gi zs i) : ascB zs = false := by
  cases hb : ascB zs with
  | false => rfl
  | true => have := (ascB_iff zs).1 hb i j hij hj; omega

/-- How many numbers are less than v. -/
def lessN (zs : List Int) (v : Int) : Nat := zs.countP (fun x => decide (x < v))
def hasB (zs : List Int) (v : Int) : Bool := zs.any (fun x => x == v)
theorem lessN_step {zs : List Int} {v : Int} {k : Nat} (h : k < zs.length) : lessN (zs.take (k + 1)) v = lessN (zs.take k) v + if gi zs k < v then 1 else 0 := by
  unfold lessN
  rw [take_gi h, List.countP_append]
  simp [List.countP_cons]
theorem lessN_le (zs : List Int) (v : Int) (k : Nat) : lessN (zs.take k) v ≤ k := by
  unfold lessN
  exact Nat.le_trans List.countP_le_length (by simp; omega)
theorem hasB_step {zs : List Int} {v : Int} {k : Nat} (h : k < zs.length) : hasB (zs.take (k + 1)) v = (hasB (zs.take k) v || (gi zs k == v)) := by
  unfold hasB
  rw [take_gi h]
  simp

/-- Where a binary search over n places ends: what is ahead of it is less, what stands there is not. -/
def Found (n : Nat) (lt : Nat → Prop) (i : Nat) : Prop := i ≤ n ∧ (∀ j, j + 1 = i → lt j) ∧ (i < n → ¬ lt i)

/-- A binary search's answer: some place i, and whether the number stands there. -/
def BsInts (zs : List Int) (v : Int) (w : World) (e : Ending) (w' : World) : Prop :=
  ∃ i : Nat, Found zs.length (fun j => gi zs j < v) i ∧ e = .returned (.tuple #[.int .i64 i, .bool (decide (i < zs.length) && (gi zs i == v))]) ∧ Draws w w'
theorem half_toNat (i j : Nat) : (((i : Int) + (j : Int)) / 2).toNat = (i + j) / 2 := by omega

theorem countP_split {zs : List Int} {p : Int → Bool} {i : Nat} (hi : i ≤ zs.length) (h1 : ∀ j, j < i → p (gi zs j) = true) (h2 : ∀ j, i ≤ j → j < zs.length → p (gi zs j) = false) : zs.countP p = i := by
  rw [← List.take_append_drop i zs, List.countP_append]
  have e1 : (zs.take i).countP p = i := by
    have hl : (zs.take i).length = i := by simp; omega
    have := (List.countP_eq_length (p := p) (l := zs.take i)).2 (fun a ha => by
      obtain ⟨j, hj, rfl⟩ := List.mem_iff_getElem.1 ha
      have hj' : j < i := by omega
      rw [List.getElem_take, ← gi_eq (by omega)]
      exact h1 j hj')
    omega
  have e2 : (zs.drop i).countP p = 0 := List.countP_eq_zero.2 (fun a ha => by
    obtain ⟨j, hj, rfl⟩ := List.mem_iff_getElem.1 ha
    have hj' : i + j < zs.length := by simp at hj; omega
    rw [List.getElem_drop, ← gi_eq hj', h2 (i + j) (by omega) hj']
    simp)
  omega

/-- In an ascending list a binary search ends behind all lesser numbers. -/
theorem found_lessN {zs : List Int} {v : Int} {i : Nat} (ha : ascB zs = true) (h : Found zs.length (fun j => gi zs j < v) i) : lessN zs v = i := by
  obtain ⟨hi, h1, h2⟩ := h
  have hm := (ascB_iff zs).1 ha
  refine countP_split hi (fun j hj => ?_) (fun j hj hl => ?_)
  · have := h1 (i - 1) (by omega)
    rcases Nat.lt_or_ge j (i - 1) with h | h
    · have := hm j (i - 1) h (by omega); simp; omega
    · obtain rfl : j = i - 1 := by omega
      simpa using this
  · have := h2 (by omega)
    rcases Nat.lt_or_ge i j with h | h
    · have := hm i j h hl; simp; omega
    · obtain rfl : j = i := by omega
      simpa using this
/-- .. and tells whether the number is there. -/
theorem found_hasB {zs : List Int} {v : Int} {i : Nat} (ha : ascB zs = true) (h : Found zs.length (fun j => gi zs j < v) i) : hasB zs v = (decide (i < zs.length) && (gi zs i == v)) := by
  obtain ⟨hi, h1, h2⟩ := h
  have hm := (ascB_iff zs).1 ha
  rw [Bool.eq_iff_iff]
  unfold hasB
  simp only [List.any_eq_true, beq_iff_eq, Bool.and_eq_true, decide_eq_true_iff]
  constructor
  · rintro ⟨x, hx, rfl⟩
    obtain ⟨j, hj, rfl⟩ := List.mem_iff_getElem.1 hx
    rw [← gi_eq hj] at *
    have hij : i ≤ j := by
      rcases Nat.lt_or_ge j i with h | h
      · have := h1 (i - 1) (by omega)
        rcases Nat.lt_or_ge j (i - 1) with h' | h'
        · have := hm j (i - 1) h' (by omega); omega
        · obtain rfl : j = i - 1 := by omega
          omega
      · exact h
    refine ⟨by omega, ?_⟩
    have := h2 (by omega)
    rcases Nat.lt_or_ge i j with h | h
    · have := hm i j h hj; omega
    · obtain rfl : j = i := by omega
      rfl
  · rintro ⟨h, e⟩
    exact ⟨gi zs i, gi_mem h, e⟩

/-- The sign of a number. -/
def sgn (a : Int) : Int := if a < 0 then -1 else if a = 0 then 0 else 1
theorem sgn_lt (a : Int) : sgn a < 0 ↔ a < 0 := by unfold sgn; split <;> (try split) <;> omega
theorem sgn_zero (a : Int) : sgn a = 0 ↔ a = 0 := by unfold sgn; split <;> (try split) <;> omega
theorem gi_sgn {zs : List Int} {i : Nat} (h : i < zs.length) : gi (zs.map sgn) i = sgn (gi zs i) := by
  rw [gi_eq (by simpa using h), gi_eq h, List.getElem_map]
/-- Negative numbers first, then zeros, then positive ones. -/
def signed (zs : List Int) : Prop := ∀ i, i + 1 < zs.length → sgn (gi zs i) ≤ sgn (gi zs (i + 1))
theorem asc_sgn {zs : List Int} (h : signed zs) : ascB (zs.map sgn) = true :=
  ascB_of_adj fun i hi => by
    have hi' : i + 1 < zs.length := by simpa using hi
    rw [gi_sgn (by omega), gi_sgn hi']
    exact h i hi'
theorem lessN_sgn (zs : List Int) : lessN (zs.map sgn) 0 = lessN zs 0 := by
  unfold lessN
  rw [List.countP_map]
  congr 1
  funext a
  simp [Function.comp, sgn_lt]
theorem hasB_sgn (zs : List Int) : hasB (zs.map sgn) 0 = hasB zs 0 := by
  unfold hasB
  rw [List.any_map]
  congr 1
  funext a
  rw [Bool.eq_iff_iff]
  simp [Function.comp, sgn_zero]
theorem found_sgn {zs : List Int} {i : Nat} (h : Found zs.length (fun j => gi zs j < 0) i) : Found (zs.map sgn).length (fun j => gi (zs.map sgn) j < 0) i := by
  obtain ⟨h1, h2, h3⟩ := h
  refine ⟨by simpa using h1, fun j hj => ?_, fun hi => ?_⟩
  · show gi (zs.map sgn) j < 0
    rw [gi_sgn (by omega), sgn_lt]; exact h2 j hj
  · have hi' : i < zs.length := by simpa using hi
    show ¬ gi (zs.map sgn) i < 0
    rw [gi_sgn hi', sgn_lt]; exact h3 hi'
theorem signs_found {zs : List Int} {i : Nat} (hs : signed zs) (h : Found zs.length (fun j => gi zs j < 0) i) : lessN zs 0 = i ∧ hasB zs 0 = (decide (i < zs.length) && (gi zs i == 0)) := by
  have h1 := found_lessN (asc_sgn hs) (found_sgn h)
  have h2 := found_hasB (asc_sgn hs) (found_sgn h)
  rw [lessN_sgn] at h1
  rw [hasB_sgn] at h2
  refine ⟨h1, ?_⟩
  rw [h2, List.length_map]
  by_cases hi : i < zs.length
  · rw [gi_sgn hi, Bool.eq_iff_iff]; simp [sgn_zero]
  · simp [hi]
end Go.Proofs.Ytfapllhjccpfpaa
