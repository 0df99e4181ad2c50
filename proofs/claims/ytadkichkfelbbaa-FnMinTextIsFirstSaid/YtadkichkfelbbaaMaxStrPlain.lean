/- Plain lemmas: the greatest and the least string of a list, byte by byte. No program in sight. -/
import Derived.Test.YtadkichkfelbbaaStrPlain
namespace Go.Proofs.Ytadkichkfelbbaa

/-- 'a is not behind b' -/
def sle (a b : ByteArray) : Prop := sl b a = false
theorem sle_refl (a : ByteArray) : sle a a := sl_irrefl a
theorem sle_trans {a b c : ByteArray} (h : sle a b) (k : sle b c) : sle a c := sl_le_trans h k
theorem sle_antisymm {a b : ByteArray} (h : sle a b) (k : sle b a) : a = b := sl_tri k h
theorem sle_of_sl {a b : ByteArray} (h : sl a b = true) : sle a b := sl_asymm h
theorem sle_total (a b : ByteArray) : sle a b ∨ sle b a := by
  unfold sle
  cases h : sl b a with
  | false => exact .inl rfl
  | true => exact .inr (sl_asymm h)

theorem mem_iff_gs {ss : List ByteArray} {z : ByteArray} : z ∈ ss ↔ ∃ i, i < ss.length ∧ gs ss i = z := by
  rw [List.mem_iff_getElem]
  constructor
  · rintro ⟨i, hi, h⟩; exact ⟨i, hi, by rw [gs_eq hi, h]⟩
  · rintro ⟨i, hi, h⟩; exact ⟨i, hi, by rw [← gs_eq hi, h]⟩

/-- A string of the list before which none of it comes (the greatest), and the like for the least. -/
def IsMaxS (ss : List ByteArray) (m : ByteArray) : Prop := m ∈ ss ∧ ∀ z ∈ ss, sle z m
def IsMinS (ss : List ByteArray) (m : ByteArray) : Prop := m ∈ ss ∧ ∀ z ∈ ss, sle m z
theorem IsMaxS.unique {ss : List ByteArray} {m n : ByteArray} (h : IsMaxS ss m) (k : IsMaxS ss n) : m = n := sle_antisymm (k.2 m h.1) (h.2 n k.1)
theorem IsMinS.unique {ss : List ByteArray} {m n : ByteArray} (h : IsMinS ss m) (k : IsMinS ss n) : m = n := sle_antisymm (h.2 n k.1) (k.2 m h.1)
/-- The later of two strings, the earlier one. -/
def smax (a b : ByteArray) : ByteArray := if sl a b = true then b else a
def smin (a b : ByteArray) : ByteArray := if sl b a = true then b else a
/-- The greatest string, the empty one of none. -/
def maxS (ss : List ByteArray) : ByteArray := ss.tail.foldl smax (ss.headD ByteArray.empty)
def minS (ss : List ByteArray) : ByteArray := ss.tail.foldl smin (ss.headD ByteArray.empty)
theorem smax_or (a b : ByteArray) : (smax a b = a ∨ smax a b = b) ∧ sle a (smax a b) ∧ sle b (smax a b) := by
  unfold smax
  cases h : sl a b with
  | true => exact ⟨.inr rfl, sle_of_sl h, sle_refl _⟩
  | false => exact ⟨.inl rfl, sle_refl _, h⟩
theorem smin_or (a b : ByteArray) : (smin a b = a ∨ smin a b = b) ∧ sle (smin a b) a ∧ sle (smin a b) b := by
  unfold smin
  cases h : sl b a with
  | true => exact ⟨.inr rfl, sle_of_sl h, sle_refl _⟩
  | false => exact ⟨.inl rfl, sle_refl _, h⟩
theorem foldl_smax (l : List ByteArray) (a : ByteArray) : (l.foldl smax a = a ∨ l.foldl smax a ∈ l) ∧ sle a (l.foldl smax a) ∧ ∀ z ∈ l, sle z (l.foldl smax a) := by
  induction l generalizing a with
  | nil => exact ⟨.inl rfl, sle_refl _, fun z hz => by cases hz⟩
  | cons b l ih =>
    obtain ⟨h1, h2, h3⟩ := ih (smax a b)
    obtain ⟨k1, k2, k3⟩ := smax_or a b
    simp only [List.foldl_cons, List.mem_cons]
    refine ⟨?_, sle_trans k2 h2, ?_⟩
    · rcases h1 with h1 | h1
      · rw [h1]
        rcases k1 with k1 | k1
        · exact .inl k1
        · exact .inr (.inl k1)
      · exact .inr (.inr h1)
    · rintro z (rfl | hz)
      · exact sle_trans k3 h2
      · exact h3 z hz
theorem foldl_smin (l : List ByteArray) (a : ByteArray) : (l.foldl smin a = a ∨ l.foldl smin a ∈ l) ∧ sle (l.foldl smin a) a ∧ ∀ z ∈ l, sle (l.foldl smin a) z := by
  induction l generalizing a with
  | nil => exact ⟨.inl rfl, sle_refl _, fun z hz => by cases hz⟩
  | cons b l ih =>
    obtain ⟨h1, h2, h3⟩ := ih (smin a b)
    obtain ⟨k1, k2, k3⟩ := smin_or a b
    simp only [List.foldl_cons, List.mem_cons]
    refine ⟨?_, sle_trans h2 k2, ?_⟩
    · rcases h1 with h1 | h1
      · rw [h1]
        rcases k1 with k1 | k1
        · exact .inl k1
        · exact .inr (.inl k1)
      · exact .inr (.inr h1)
    · rintro z (rfl | hz)
      · exact sle_trans h2 k3
      · exact h3 z hz
theorem isMaxS_maxS {ss : List ByteArray} (h : ss ≠ []) : IsMaxS ss (maxS ss) := by
  match ss, h with
  | a :: l, _ =>
    obtain ⟨h1, h2, h3⟩ := foldl_smax l a
    refine ⟨?_, fun z hz => ?_⟩
    · rcases h1 with h1 | h1
      · show l.foldl smax a ∈ a :: l
        rw [h1]; exact List.mem_cons_self
      · exact List.mem_cons_of_mem _ h1
    · rcases List.mem_cons.1 hz with rfl | hz
      · exact h2
      · exact h3 z hz
theorem isMinS_minS {ss : List ByteArray} (h : ss ≠ []) : IsMinS ss (minS ss) := by
  match ss, h with
  | a :: l, _ =>
    obtain ⟨h1, h2, h3⟩ := foldl_smin l a
    refine ⟨?_, fun z hz => ?_⟩
    · rcases h1 with h1 | h1
      · show l.foldl smin a ∈ a :: l
        rw [h1]; exact List.mem_cons_self
      · exact List.mem_cons_of_mem _ h1
    · rcases List.mem_cons.1 hz with rfl | hz
      · exact h2
      · exact h3 z hz

def MaxToS (ss : List ByteArray) (k : Nat) (m : ByteArray) : Prop := (∃ i, i < k ∧ gs ss i = m) ∧ ∀ i, i < k → sle (gs ss i) m
def MinToS (ss : List ByteArray) (k : Nat) (m : ByteArray) : Prop := (∃ i, i < k ∧ gs ss i = m) ∧ ∀ i, i < k → sle m (gs ss i)
theorem MaxToS.start (ss : List ByteArray) : MaxToS ss 1 (gs ss 0) := ⟨⟨0, by omega, rfl⟩, fun i hi => by
    obtain rfl : i = 0 := by omega
    exact sle_refl _⟩
theorem MinToS.start (ss : List ByteArray) : MinToS ss 1 (gs ss 0) := ⟨⟨0, by omega, rfl⟩, fun i hi => by
    obtain rfl : i = 0 := by omega
    exact sle_refl _⟩
theorem MaxToS.more {ss : List ByteArray} {k : Nat} {m : ByteArray} (h : MaxToS ss k m) (hk : sl m (gs ss k) = true) : MaxToS ss (k + 1) (gs ss k) :=
  ⟨⟨k, by omega, rfl⟩, fun i hi => by
    rcases Nat.lt_or_ge i k with h1 | h1
    · exact sle_trans (h.2 i h1) (sle_of_sl hk)
    · obtain rfl : i = k := by omega
      exact sle_refl _⟩
theorem MaxToS.keep {ss : List ByteArray} {k : Nat} {m : ByteArray} (h : MaxToS ss k m) (hk : sl m (gs ss k) = false) : MaxToS ss (k + 1) m :=
  ⟨by obtain ⟨i, hi, e⟩ := h.1; exact ⟨i, by omega, e⟩, fun i hi => by
    rcases Nat.lt_or_ge i k with h1 | h1
    · exact h.2 i h1
    · obtain rfl : i = k := by omega
      exact hk⟩
theorem MinToS.more {ss : List ByteArray} {k : Nat} {m : ByteArray} (h : MinToS ss k m) (hk : sl (gs ss k) m = true) : MinToS ss (k + 1) (gs ss k) :=
  ⟨⟨k, by omega, rfl⟩, fun i hi => by
    rcases Nat.lt_or_ge i k with h1 | h1
    · exact sle_trans (sle_of_sl hk) (h.2 i h1)
    · obtain rfl : i = k := by omega
      exact sle_refl _⟩
theorem MinToS.keep {ss : List ByteArray} {k : Nat} {m : ByteArray} (h : MinToS ss k m) (hk : sl (gs ss k) m = false) : MinToS ss (k + 1) m :=
  ⟨by obtain ⟨i, hi, e⟩ := h.1; exact ⟨i, by omega, e⟩, fun i hi => by
    rcases Nat.lt_or_ge i k with h1 | h1
    · exact h.2 i h1
    · obtain rfl : i = k := by omega
      exact hk⟩
theorem MaxToS.done {ss : List ByteArray} {k : Nat} {m : ByteArray} (h : MaxToS ss k m) (hk : k = ss.length) : m = maxS ss := by
  subst hk
  obtain ⟨⟨i, hi, e⟩, h2⟩ := h
  have hm : IsMaxS ss m := ⟨mem_iff_gs.2 ⟨i, hi, e⟩, fun z hz => by
    obtain ⟨j, hj, e'⟩ := mem_iff_gs.1 hz
    rw [← e']
    exact h2 j hj⟩
  exact hm.unique (isMaxS_maxS (by rintro rfl; simp at hi))
theorem MinToS.done {ss : List ByteArray} {k : Nat} {m : ByteArray} (h : MinToS ss k m) (hk : k = ss.length) : m = minS ss := by
  subst hk
  obtain ⟨⟨i, hi, e⟩, h2⟩ := h
  have hm : IsMinS ss m := ⟨mem_iff_gs.2 ⟨i, hi, e⟩, fun z hz => by
    obtain ⟨j, hj, e'⟩ := mem_iff_gs.1 hz
    rw [← e']
    exact h2 j hj⟩
  exact hm.unique (isMinS_minS (by rintro rfl; simp at hi))

/-- What the reference's inner loop knows: is none of the first m strings behind v. -/
def AllLeS (ss : List ByteArray) (v : ByteArray) (m : Nat) (g : Bool) : Prop := g = true ↔ ∀ i, i < m → sle (gs ss i) v
def AllGeS (ss : List ByteArray) (v : ByteArray) (m : Nat) (g : Bool) : Prop := g = true ↔ ∀ i, i < m → sle v (gs ss i)
theorem AllLeS.start (ss : List ByteArray) (v : ByteArray) : AllLeS ss v 0 true := ⟨fun _ i hi => absurd hi (by omega), fun _ => rfl⟩
theorem AllGeS.start (ss : List ByteArray) (v : ByteArray) : AllGeS ss v 0 true := ⟨fun _ i hi => absurd hi (by omega), fun _ => rfl⟩
theorem AllLeS.step {ss : List ByteArray} {v : ByteArray} {m : Nat} {g : Bool} (h : AllLeS ss v m g) : AllLeS ss v (m + 1) (g && !sl v (gs ss m)) := by
  unfold AllLeS at *
  rw [Bool.and_eq_true, h, Bool.not_eq_true']
  refine ⟨fun ⟨h1, h2⟩ i hi => ?_, fun h1 => ⟨fun i hi => h1 i (by omega), h1 m (by omega)⟩⟩
  rcases Nat.lt_or_ge i m with h' | h'
  · exact h1 i h'
  · obtain rfl : i = m := by omega
    exact h2
theorem AllGeS.step {ss : List ByteArray} {v : ByteArray} {m : Nat} {g : Bool} (h : AllGeS ss v m g) : AllGeS ss v (m + 1) (g && !sl (gs ss m) v) := by
  unfold AllGeS at *
  rw [Bool.and_eq_true, h, Bool.not_eq_true']
  refine ⟨fun ⟨h1, h2⟩ i hi => ?_, fun h1 => ⟨fun i hi => h1 i (by omega), h1 m (by omega)⟩⟩
  rcases Nat.lt_or_ge i m with h' | h'
  · exact h1 i h'
  · obtain rfl : i = m := by omega
    exact h2
theorem AllLeS.max {ss : List ByteArray} {k : Nat} (hk : k < ss.length) (h : AllLeS ss (gs ss k) ss.length true) : gs ss k = maxS ss := by
  have h' := h.1 rfl
  have hm : IsMaxS ss (gs ss k) := ⟨gs_mem hk, fun z hz => by
    obtain ⟨j, hj, e⟩ := mem_iff_gs.1 hz
    rw [← e]
    exact h' j hj⟩
  exact hm.unique (isMaxS_maxS (by rintro rfl; simp at hk))
theorem AllGeS.min {ss : List ByteArray} {k : Nat} (hk : k < ss.length) (h : AllGeS ss (gs ss k) ss.length true) : gs ss k = minS ss := by
  have h' := h.1 rfl
  have hm : IsMinS ss (gs ss k) := ⟨gs_mem hk, fun z hz => by
    obtain ⟨j, hj, e⟩ := mem_iff_gs.1 hz
    rw [← e]
    exact h' j hj⟩
  exact hm.unique (isMinS_minS (by rintro rfl; simp at hk))
theorem some_maxS {ss : List ByteArray} (h0 : 0 < ss.length) (h : ∀ j, j < ss.length → AllLeS ss (gs ss j) ss.length false) : False := by
  obtain ⟨j, hj, e⟩ := mem_iff_gs.1 (isMaxS_maxS (ss := ss) (by rintro rfl; simp at h0)).1
  have := (h j hj).2 (fun i hi => by rw [e]; exact (isMaxS_maxS (ss := ss) (by rintro rfl; simp at h0)).2 _ (gs_mem hi))
  cases this
theorem some_minS {ss : List ByteArray} (h0 : 0 < ss.length) (h : ∀ j, j < ss.length → AllGeS ss (gs ss j) ss.length false) : False := by
  obtain ⟨j, hj, e⟩ := mem_iff_gs.1 (isMinS_minS (ss := ss) (by rintro rfl; simp at h0)).1
  have := (h j hj).2 (fun i hi => by rw [e]; exact (isMinS_minS (ss := ss) (by rintro rfl; simp at h0)).2 _ (gs_mem hi))
  cases this
end Go.Proofs.Ytadkichkfelbbaa
