/- Plain lemmas for the library's stable sort, with lists: exchanges, the insertion sort, the three ways of its merge, runs of blocks. No program in sight. -/
import Derived.Test.YtnjnphoidjachaaStablePlain
import Derived.Sort.WalkA
namespace Go.Proofs.Ytnjnphoidjachaa
open Go.Sort (swp insInner insOuter)
section
variable {α : Type} {lt : α → α → Bool} {S : α → Prop}

/-- Element i, behind a name that the walk does not open. -/
def ge [Inhabited α] (L : List α) (i : Nat) : α := L.getD i default
theorem ge_some [Inhabited α] {L : List α} {i : Nat} (h : i < L.length) : L[i]? = some (ge L i) := by simp [ge, h]
theorem ge_of [Inhabited α] {L : List α} {i : Nat} {x : α} (h : L[i]? = some x) : ge L i = x := by simp [ge, List.getD, h]
theorem ge_arr [Inhabited α] (L : List α) {i : Nat} (h : i < L.length) : L.toArray[i]! = ge L i := by simp [ge, h]
theorem ge_mid [Inhabited α] (p : List α) (x : α) (s : List α) {i : Nat} (h : i = p.length) : ge (p ++ x :: s) i = x := by subst h; exact ge_of (by simp)
/-- Two elements exchanged. -/
def swapL [Inhabited α] (L : List α) (i j : Nat) : List α := (L.set i (ge L j)).set j (ge L i)
theorem length_swapL [Inhabited α] (L : List α) (i j : Nat) : (swapL L i j).length = L.length := by simp [swapL]
theorem swapL_split [Inhabited α] (p : List α) (x : α) (m : List α) (y : α) (s : List α) {i j : Nat} (hi : i = p.length) (hj : j = p.length + 1 + m.length) :
    swapL (p ++ x :: (m ++ y :: s)) i j = p ++ y :: (m ++ x :: s) := by
  have e1 : ge (p ++ x :: (m ++ y :: s)) i = x := ge_mid p x _ hi
  have e2 : ge (p ++ x :: (m ++ y :: s)) j = y := by
    have h : p ++ x :: (m ++ y :: s) = (p ++ x :: m) ++ y :: s := by simp
    rw [h]
    exact ge_mid _ y s (by simp; omega)
  subst hi hj
  unfold swapL
  rw [e1, e2, List.set_append_right _ _ (Nat.le_refl _), Nat.sub_self, List.set_cons_zero, List.set_append_right _ _ (by omega), show p.length + 1 + m.length - p.length = m.length + 1 by omega, List.set_cons_succ, List.set_append_right _ _ (Nat.le_refl _), Nat.sub_self, List.set_cons_zero]
theorem swapL_comm [Inhabited α] (L : List α) {i j : Nat} (h : i ≠ j) : swapL L i j = swapL L j i := by
  unfold swapL
  rw [List.set_comm _ _ h]
theorem swapL_up [Inhabited α] (p : List α) (x y : α) (s : List α) {i j : Nat} (hi : i = p.length) (hj : j = p.length + 1) : swapL (p ++ x :: y :: s) i j = p ++ y :: x :: s :=
  swapL_split p x [] y s hi (by simpa using hj)
theorem swapL_down [Inhabited α] (p : List α) (x y : α) (s : List α) {i j : Nat} (hi : i = p.length) (hj : j = p.length + 1) : swapL (p ++ x :: y :: s) j i = p ++ y :: x :: s := by
  rw [swapL_comm _ (by omega)]
  exact swapL_up p x y s hi hj
theorem swp_list [Inhabited α] (L : List α) {i j : Nat} (hi : i < L.length) (hj : j < L.length) : swp L.toArray i j = (swapL L i j).toArray := by
  unfold swp swapL
  rw [ge_arr L hi, ge_arr L hj]
  simp

/-! The insertion sort. -/
theorem insInner_list [Inhabited α] (lt : α → α → Bool) (p : List α) (x : α) : ∀ (n : Nat) (us t : List α), us.length = n → ∃ us1 us2, us = us1 ++ us2 ∧
    insInner lt p.length (p.length + us.length) (p ++ (us ++ x :: t)).toArray = (p ++ ((us1 ++ x :: us2) ++ t)).toArray ∧ (∀ u ∈ us2, lt x u = true) ∧ (us1 = [] ∨ ∃ us' y, us1 = us' ++ [y] ∧ lt x y = false)
  | 0, us, t, hn => by
    obtain rfl : us = [] := List.eq_nil_of_length_eq_zero hn
    exact ⟨[], [], rfl, insInner_stop lt _ _ _ (.inl (by simp)), by simp, .inl rfl⟩
  | n + 1, us, t, hn => by
    obtain ⟨us', y, rfl⟩ : ∃ us' y, us = us' ++ [y] := ⟨us.dropLast, us.getLast (by intro h; simp [h] at hn), (List.dropLast_concat_getLast _).symm⟩
    have hn' : us'.length = n := by simpa using hn
    have e0 : p ++ ((us' ++ [y]) ++ x :: t) = (p ++ us') ++ y :: x :: t := by simp
    have ex : ge (p ++ ((us' ++ [y]) ++ x :: t)) (p.length + (us' ++ [y]).length) = x := by
      rw [show p ++ ((us' ++ [y]) ++ x :: t) = (p ++ us' ++ [y]) ++ x :: t by simp]
      exact ge_mid _ _ _ (by simp)
    have ey : ge (p ++ ((us' ++ [y]) ++ x :: t)) (p.length + (us' ++ [y]).length - 1) = y := by
      rw [e0]
      exact ge_mid _ _ _ (by simp)
    have h1 : (p ++ ((us' ++ [y]) ++ x :: t)).toArray[p.length + (us' ++ [y]).length]! = x := by rw [ge_arr _ (by simp), ex]
    have h2 : (p ++ ((us' ++ [y]) ++ x :: t)).toArray[p.length + (us' ++ [y]).length - 1]! = y := by rw [ge_arr _ (by simp), ey]
    by_cases h : lt x y = true
    · obtain ⟨us1, us2, e1, e2, e3, e4⟩ := insInner_list lt p x n us' (y :: t) hn'
      refine ⟨us1, us2 ++ [y], by rw [e1]; simp, ?_, ?_, e4⟩
      · rw [insInner_go lt _ _ _ (by simp) (by rw [h1, h2]; exact h), swp_list _ (by simp) (by simp), e0,
          swapL_down (p ++ us') y x t (by simp) (by simp; omega)]
        rw [show p.length + (us' ++ [y]).length - 1 = p.length + us'.length by simp, show p ++ us' ++ x :: y :: t = p ++ (us' ++ x :: y :: t) by simp, e2]
        simp
      · intro u hu
        rcases List.mem_append.1 hu with hu | hu
        · exact e3 u hu
        · rw [List.mem_singleton.1 hu]; exact h
    · have h' : lt x y = false := by simpa using h
      exact ⟨us' ++ [y], [], by simp, by rw [insInner_stop lt _ _ _ (.inr (by rw [h1, h2]; exact h'))]; simp, by simp, .inr ⟨us', y, rfl, h'⟩⟩

theorem last_not {us : List α} {y x : α} (W : Weak lt S) (hs : Srt lt (us ++ [y])) (hu : ∀ u ∈ us, S u) (hy : S y) (hx : S x) (h : lt x y = false) : ∀ u ∈ us ++ [y], lt x u = false := by
  intro u hm
  rcases List.mem_append.1 hm with hm | hm
  · exact W.neg u y x (hu u hm) hy hx (hs.cross u hm y (by simp)) h
  · rw [List.mem_singleton.1 hm]; exact h
theorem last_lt {us : List α} {y x : α} (W : Weak lt S) (hs : Srt lt (us ++ [y])) (hu : ∀ u ∈ us, S u) (hy : S y) (hx : S x) (h : lt y x = true) : ∀ u ∈ us ++ [y], lt u x = true := by
  intro u hm
  rcases List.mem_append.1 hm with hm | hm
  · cases e : lt u x with
    | true => rfl
    | false =>
      have := W.neg x u y hx (hu u hm) hy e (hs.cross u hm y (by simp))
      rw [h] at this; cases this
  · rw [List.mem_singleton.1 hm]; exact h
theorem first_not {vs : List α} {y x : α} (W : Weak lt S) (hs : Srt lt (y :: vs)) (hv : ∀ u ∈ vs, S u) (hy : S y) (hx : S x) (h : lt y x = false) : ∀ v ∈ y :: vs, lt v x = false := by
  intro v hm
  rcases List.mem_cons.1 hm with rfl | hm
  · exact h
  · exact W.neg x y v hx hy (hv v hm) h ((List.pairwise_cons.1 hs).1 v hm)
theorem first_lt {vs : List α} {y x : α} (W : Weak lt S) (hs : Srt lt (y :: vs)) (hv : ∀ u ∈ vs, S u) (hy : S y) (hx : S x) (h : lt x y = true) : ∀ v ∈ y :: vs, lt x v = true := by
  intro v hm
  rcases List.mem_cons.1 hm with rfl | hm
  · exact h
  · cases e : lt x v with
    | true => rfl
    | false =>
      have := W.neg y v x hy (hv v hm) hx ((List.pairwise_cons.1 hs).1 v hm) e
      rw [h] at this; cases this

theorem SO.one (x : α) : SO lt [x] [x] := ⟨List.Perm.refl _, fun _ => StableOf.self (by simp [Srt])⟩
theorem insOuter_list [Inhabited α] (lt : α → α → Bool) (p s : List α) : ∀ (r u z : List α), SO lt u z → ∃ z', SO lt (u ++ r) z' ∧
    insOuter lt p.length (p.length + (u ++ r).length) (p.length + u.length) (p ++ (z ++ (r ++ s))).toArray = (p ++ (z' ++ s)).toArray
  | [], u, z, h => ⟨z, by simpa using h, by rw [insOuter_stop lt _ _ _ _ (by simp)]; simp⟩
  | x :: r, u, z, h => by
    obtain ⟨us1, us2, e1, e2, e3, e4⟩ := insInner_list lt p x z.length z (r ++ s) rfl
    have hl := h.length
    have hm : Merged lt z [x] (us1 ++ ([x] ++ us2)) := by
      rw [e1]
      refine Merged.one_right (fun W hs => ⟨?_, e3⟩)
      rcases e4 with rfl | ⟨us', y, rfl, hy⟩
      · simp
      · exact last_not W hs.left (fun u hu => by simp [hu]) (by simp) (by simp) hy
    have h' : SO lt (u ++ [x]) (us1 ++ ([x] ++ us2)) := h.merge (SO.one x) hm
    obtain ⟨z', h1, h2⟩ := insOuter_list lt p s r (u ++ [x]) _ h'
    refine ⟨z', by simpa using h1, ?_⟩
    rw [insOuter_go lt _ _ _ _ (by simp)]
    rw [hl] at e2
    rw [show p ++ (z ++ (x :: r ++ s)) = p ++ (z ++ x :: (r ++ s)) by simp, e2]
    have e5 : p.length + u.length + 1 = p.length + (u ++ [x]).length := by simp; omega
    have e6 : u ++ x :: r = (u ++ [x]) ++ r := by simp
    have e7 : p ++ ((us1 ++ x :: us2) ++ (r ++ s)) = p ++ ((us1 ++ ([x] ++ us2)) ++ (r ++ s)) := by simp
    rw [e5, e6, e7, h2]
/-- The insertion sort of a part. -/
theorem insertionSort_list [Inhabited α] (lt : α → α → Bool) (p u s : List α) {a b : Nat} (ha : a = p.length) (hb : b = p.length + u.length) : ∃ z, SO lt u z ∧ Go.Sort.insertionSort lt (p ++ (u ++ s)).toArray a b = (p ++ (z ++ s)).toArray := by
  subst ha hb
  match u with
  | [] => exact ⟨[], SO.refl_nil, by unfold Go.Sort.insertionSort; rw [insOuter_stop lt _ _ _ _ (by simp)]⟩
  | x :: u =>
    obtain ⟨z, h1, h2⟩ := insOuter_list lt p s u [x] [x] (SO.one x)
    refine ⟨z, by simpa using h1, ?_⟩
    unfold Go.Sort.insertionSort
    simpa using h2

/-! The merge's three ways. -/
theorem take_drop_of {v : List α} {q : Nat} : v.take q ++ v.drop q = v := List.take_append_drop q v
theorem take_last [Inhabited α] {v : List α} {q : Nat} (h : 0 < q) (hq : q ≤ v.length) : v.take q = v.take (q - 1) ++ [ge v (q - 1)] := by
  obtain ⟨n, rfl⟩ : ∃ n, q = n + 1 := ⟨q - 1, by omega⟩
  rw [List.take_succ_eq_append_getElem (by omega), Nat.add_sub_cancel]
  congr 2
  have := ge_some (L := v) (i := n) (by omega)
  rw [List.getElem?_eq_getElem (by omega)] at this
  exact Option.some.inj this
theorem drop_first [Inhabited α] {v : List α} {q : Nat} (hq : q < v.length) : v.drop q = ge v q :: v.drop (q + 1) := by
  rw [List.drop_eq_getElem_cons hq]
  congr 1
  have := ge_some (L := v) (i := q) (by omega)
  rw [List.getElem?_eq_getElem (by omega)] at this
  exact Option.some.inj this
theorem ge_app_right [Inhabited α] (p v : List α) {i : Nat} (h : p.length ≤ i) : ge (p ++ v) i = ge v (i - p.length) := by
  simp only [ge, List.getD]
  rw [List.getElem?_append_right h]
theorem ge_app_left [Inhabited α] (v s : List α) {i : Nat} (h : i < v.length) : ge (v ++ s) i = ge v i := by
  simp only [ge, List.getD]
  rw [List.getElem?_append_left h]
theorem mem_ge [Inhabited α] {v : List α} {i : Nat} (h : i < v.length) : ge v i ∈ v := List.mem_of_getElem? (ge_some h)

/-- One element into the sorted part behind it. -/
theorem merge_left [Inhabited α] (x : α) (v : List α) {t : Nat} (ht : t ≤ v.length) (h1 : t = 0 ∨ lt (ge v (t - 1)) x = true) (h2 : t = v.length ∨ lt (ge v t) x = false) :
    Merged lt [x] v (v.take t ++ ([x] ++ v.drop t)) := by
  have key : Merged lt [x] (v.take t ++ v.drop t) (v.take t ++ ([x] ++ v.drop t)) := by
    refine Merged.one_left (fun W hs => ⟨?_, ?_⟩)
    · by_cases h0 : t = 0
      · subst h0; simp
      · have hl := h1.resolve_left h0
        have e := take_last (v := v) (q := t) (by omega) ht
        rw [e] at hs ⊢
        exact last_lt W hs.left (fun u hu => by rw [e]; simp [hu]) (by rw [e]; simp) (by simp) hl
    · by_cases h0 : t = v.length
      · subst h0; simp
      · have hl := h2.resolve_left h0
        have e := drop_first (v := v) (q := t) (by omega)
        rw [e] at hs ⊢
        exact first_not W hs.right (fun u hu => by rw [e]; simp [hu]) (by rw [e]; simp) (by simp) hl
  rwa [take_drop_of] at key
/-- One element into the sorted part ahead of it. -/
theorem merge_right [Inhabited α] (x : α) (u : List α) {t : Nat} (ht : t ≤ u.length) (h1 : t = 0 ∨ lt x (ge u (t - 1)) = false) (h2 : t = u.length ∨ lt x (ge u t) = true) :
    Merged lt u [x] (u.take t ++ ([x] ++ u.drop t)) := by
  have key : Merged lt (u.take t ++ u.drop t) [x] (u.take t ++ ([x] ++ u.drop t)) := by
    refine Merged.one_right (fun W hs => ⟨?_, ?_⟩)
    · by_cases h0 : t = 0
      · subst h0; simp
      · have hl := h1.resolve_left h0
        have e := take_last (v := u) (q := t) (by omega) ht
        rw [e] at hs ⊢
        exact last_not W hs.left (fun u hu => by rw [e]; simp [hu]) (by rw [e]; simp) (by simp) hl
    · by_cases h0 : t = u.length
      · subst h0; simp
      · have hl := h2.resolve_left h0
        have e := drop_first (v := u) (q := t) (by omega)
        rw [e] at hs ⊢
        exact first_lt W hs.right (fun u hu => by rw [e]; simp [hu]) (by rw [e]; simp) (by simp) hl
  rwa [take_drop_of] at key
/-- Both cut, by the search's two ends. -/
theorem merge_sym [Inhabited α] {u v zl zr : List α} {t q : Nat} (ht : t ≤ u.length) (hq : q ≤ v.length) (h1 : t = 0 ∨ q = v.length ∨ lt (ge v q) (ge u (t - 1)) = false) (h2 : t = u.length ∨ q = 0 ∨ lt (ge v (q - 1)) (ge u t) = true)
    (hl : Merged lt (u.take t) (v.take q) zl) (hr : Merged lt (u.drop t) (v.drop q) zr) : Merged lt u v (zl ++ zr) := by
  have key : Merged lt (u.take t ++ u.drop t) (v.take q ++ v.drop q) (zl ++ zr) := by
    refine Merged.sym hl hr (fun W su sv => ⟨?_, ?_⟩)
    · by_cases a0 : t = 0
      · subst a0; simp
      · by_cases b0 : q = v.length
        · subst b0; simp
        · have h := (h1.resolve_left a0).resolve_left b0
          have e1 := take_last (v := u) (q := t) (by omega) ht
          have e2 := drop_first (v := v) (q := q) (by omega)
          rw [e1, e2] at W ⊢
          rw [e1] at su
          rw [e2] at sv
          intro x hx y hy
          have m1 : ∀ z ∈ u.take (t - 1) ++ [ge u (t - 1)], z ∈ (u.take (t - 1) ++ [ge u (t - 1)] ++ u.drop t) ++ (v.take q ++ ge v q :: v.drop (q + 1)) := fun z hz => List.mem_append_left _ (List.mem_append_left _ hz)
          have m2 : ∀ z ∈ ge v q :: v.drop (q + 1), z ∈ (u.take (t - 1) ++ [ge u (t - 1)] ++ u.drop t) ++ (v.take q ++ ge v q :: v.drop (q + 1)) := fun z hz => List.mem_append_right _ (List.mem_append_right _ hz)
          have g1 := last_not W su.left (fun z hz => m1 z (List.mem_append_left _ hz)) (m1 _ (by simp)) (m2 _ (by simp)) h x hx
          exact first_not W sv.right (fun z hz => m2 z (List.mem_cons_of_mem _ hz)) (m2 _ (by simp)) (m1 x hx) g1 y hy
    · by_cases a0 : t = u.length
      · subst a0; simp
      · by_cases b0 : q = 0
        · subst b0; simp
        · have h := (h2.resolve_left a0).resolve_left b0
          have e1 := drop_first (v := u) (q := t) (by omega)
          have e2 := take_last (v := v) (q := q) (by omega) hq
          rw [e1, e2] at W ⊢
          rw [e1] at su
          rw [e2] at sv
          intro x hx y hy
          have m1 : ∀ z ∈ ge u t :: u.drop (t + 1), z ∈ (u.take t ++ ge u t :: u.drop (t + 1)) ++ (v.take (q - 1) ++ [ge v (q - 1)] ++ v.drop q) := fun z hz => List.mem_append_left _ (List.mem_append_right _ hz)
          have m2 : ∀ z ∈ v.take (q - 1) ++ [ge v (q - 1)], z ∈ (u.take t ++ ge u t :: u.drop (t + 1)) ++ (v.take (q - 1) ++ [ge v (q - 1)] ++ v.drop q) := fun z hz => List.mem_append_right _ (List.mem_append_left _ hz)
          have g1 := last_lt W sv.left (fun z hz => m2 z (List.mem_append_left _ hz)) (m2 _ (by simp)) (m1 _ (by simp)) h x hx
          exact first_lt W su.right (fun z hz => m1 z (List.mem_cons_of_mem _ hz)) (m1 _ (by simp)) (m2 x hx) g1 y hy
  rwa [take_drop_of, take_drop_of] at key

/-! Runs of blocks. -/
/-- k blocks of bs elements and a last one of at most bs, each sorted for itself. -/
def RunsP (lt : α → α → Bool) (bs : Nat) : Nat → List α → List α → Prop
  | 0, Z, L => Z.length ≤ bs ∧ SO lt Z L
  | k + 1, Z, L => ∃ Z1 L1 Z2 L2, Z = Z1 ++ Z2 ∧ L = L1 ++ L2 ∧ Z1.length = bs ∧ SO lt Z1 L1 ∧ RunsP lt bs k Z2 L2
/-- Blocks of bs elements, each sorted for itself; the last one may be shorter. -/
def Runs (lt : α → α → Bool) (bs : Nat) (Z L : List α) : Prop := ∃ k, RunsP lt bs k Z L
theorem Runs.last {bs : Nat} {Z L : List α} (h1 : Z.length ≤ bs) (h2 : SO lt Z L) : Runs lt bs Z L := ⟨0, h1, h2⟩
theorem Runs.cons {bs : Nat} {Z1 L1 Z2 L2 : List α} (h1 : Z1.length = bs) (h2 : SO lt Z1 L1) (h3 : Runs lt bs Z2 L2) : Runs lt bs (Z1 ++ Z2) (L1 ++ L2) := by
  obtain ⟨k, h⟩ := h3
  exact ⟨k + 1, Z1, L1, Z2, L2, rfl, rfl, h1, h2, h⟩
/-- k blocks of just bs elements, each sorted for itself. -/
def FullP (lt : α → α → Bool) (bs : Nat) : Nat → List α → List α → Prop
  | 0, Z, L => Z = [] ∧ L = []
  | k + 1, Z, L => ∃ Z0 L0 Z1 L1, Z = Z0 ++ Z1 ∧ L = L0 ++ L1 ∧ FullP lt bs k Z0 L0 ∧ Z1.length = bs ∧ SO lt Z1 L1
/-- Blocks of just bs elements, each sorted for itself. -/
def Full (lt : α → α → Bool) (bs : Nat) (Z L : List α) : Prop := ∃ k, FullP lt bs k Z L
theorem Full.nil {bs : Nat} : Full lt bs ([] : List α) [] := ⟨0, rfl, rfl⟩
theorem Full.snoc {bs : Nat} {Z L Z1 L1 : List α} (h : Full lt bs Z L) (h1 : Z1.length = bs) (h2 : SO lt Z1 L1) : Full lt bs (Z ++ Z1) (L ++ L1) := by
  obtain ⟨k, h⟩ := h
  exact ⟨k + 1, Z, L, Z1, L1, rfl, rfl, h, h1, h2⟩
theorem RunsP.length {bs : Nat} : ∀ (k : Nat) {Z L : List α}, RunsP lt bs k Z L → L.length = Z.length
  | 0, _, _, h => h.2.length
  | k + 1, _, _, h => by
    obtain ⟨Z1, L1, Z2, L2, rfl, rfl, _, h2, h3⟩ := h
    rw [List.length_append, List.length_append, h2.length, RunsP.length k h3]
theorem Runs.length {bs : Nat} {Z L : List α} (h : Runs lt bs Z L) : L.length = Z.length := by
  obtain ⟨k, h⟩ := h
  exact RunsP.length k h
theorem FullP.length {bs : Nat} : ∀ (k : Nat) {Z L : List α}, FullP lt bs k Z L → L.length = Z.length
  | 0, _, _, h => by rw [h.1, h.2]
  | k + 1, _, _, h => by
    obtain ⟨Z0, L0, Z1, L1, rfl, rfl, h1, _, h2⟩ := h
    rw [List.length_append, List.length_append, h2.length, FullP.length k h1]
theorem Full.length {bs : Nat} {Z L : List α} (h : Full lt bs Z L) : L.length = Z.length := by
  obtain ⟨k, h⟩ := h
  exact FullP.length k h
theorem FullP.runs {bs : Nat} : ∀ (k : Nat) {Z L Z' L' : List α}, FullP lt bs k Z L → Runs lt bs Z' L' → Runs lt bs (Z ++ Z') (L ++ L')
  | 0, _, _, _, _, h, r => by
    rw [h.1, h.2]
    exact r
  | k + 1, _, _, _, _, h, r => by
    obtain ⟨Z0, L0, Z1, L1, rfl, rfl, h1, h2, h3⟩ := h
    rw [List.append_assoc, List.append_assoc]
    exact FullP.runs k h1 (.cons h2 h3 r)
theorem Full.runs {bs : Nat} {Z L Z' L' : List α} (h : Full lt bs Z L) (r : Runs lt bs Z' L') : Runs lt bs (Z ++ Z') (L ++ L') := by
  obtain ⟨k, h⟩ := h
  exact FullP.runs k h r
theorem Runs.so {bs : Nat} {Z L : List α} (h : Runs lt bs Z L) (hl : Z.length ≤ bs) : SO lt Z L := by
  obtain ⟨k, h⟩ := h
  match k, h with
  | 0, h => exact h.2
  | k + 1, h =>
    obtain ⟨Z1, L1, Z2, L2, rfl, rfl, h1, h2, h3⟩ := h
    have e : Z2 = [] := List.eq_nil_of_length_eq_zero (by simp at hl; omega)
    have e' : L2 = [] := List.eq_nil_of_length_eq_zero (by rw [RunsP.length k h3, e]; rfl)
    subst e e'
    simpa using h2
theorem Runs.first {bs : Nat} {Z L : List α} (h : Runs lt bs Z L) (hl : bs ≤ Z.length) : ∃ Z1 L1 Z2 L2, Z = Z1 ++ Z2 ∧ L = L1 ++ L2 ∧ Z1.length = bs ∧ SO lt Z1 L1 ∧ Runs lt bs Z2 L2 := by
  obtain ⟨k, h⟩ := h
  match k, h with
  | 0, h => exact ⟨Z, L, [], [], by simp, by simp, Nat.le_antisymm h.1 hl, h.2, .last (Nat.zero_le _) SO.refl_nil⟩
  | k + 1, h =>
    obtain ⟨Z1, L1, Z2, L2, e1, e2, h1, h2, h3⟩ := h
    exact ⟨Z1, L1, Z2, L2, e1, e2, h1, h2, k, h3⟩
end
end Go.Proofs.Ytnjnphoidjachaa
