/- Plain lemmas: where a binary search in an ascending list of strings ends. No program in sight. -/
import Derived.Test.YthioaialkilbdaaStrPlain
namespace Go.Proofs.Ythioaialkilbdaa

theorem take_gs {zs : List ByteArray} {k : Nat} (h : k < zs.length) : zs.take (k + 1) = zs.take k ++ [gs zs k] := by
  rw [List.take_succ_eq_append_getElem h, gs_eq h]
/-- How many strings are before v; is v there. -/
def lessNS (zs : List ByteArray) (v : ByteArray) : Nat := zs.countP (fun x => sl x v)
def hasS (zs : List ByteArray) (v : ByteArray) : Bool := zs.any (fun x => decide (x = v))
theorem lessNS_step {zs : List ByteArray} {v : ByteArray} {k : Nat} (h : k < zs.length) : lessNS (zs.take (k + 1)) v = lessNS (zs.take k) v + if sl (gs zs k) v = true then 1 else 0 := by
  unfold lessNS
  rw [take_gs h, List.countP_append]
  simp [List.countP_cons]
theorem hasS_step {zs : List ByteArray} {v : ByteArray} {k : Nat} (h : k < zs.length) : hasS (zs.take (k + 1)) v = (hasS (zs.take k) v || decide (gs zs k = v)) := by
  unfold hasS
  rw [take_gs h]
  simp
/-- A binary search's answer: some place i, and whether the string stands there. -/
def BsStrs (zs : List ByteArray) (v : ByteArray) (w : World) (e : Ending) (w' : World) : Prop :=
  ∃ i : Nat, Found zs.length (fun j => sl (gs zs j) v = true) i ∧ e = .returned (.tuple #[.int .i64 i, .bool (decide (i < zs.length) && decide (gs zs i = v))]) ∧ Draws w w'
theorem countP_splitS {zs : List ByteArray} {p : ByteArray → Bool} {i : Nat} (hi : i ≤ zs.length) (h1 : ∀ j, j < i → p (gs zs j) = true) (h2 : ∀ j, i ≤ j → j < zs.length → p (gs zs j) = false) : zs.countP p = i := by
  rw [← List.take_append_drop i zs, List.countP_append]
  have e1 : (zs.take i).countP p = i := by
    have hl : (zs.take i).length = i := by simp; omega
    have := (List.countP_eq_length (p := p) (l := zs.take i)).2 (fun a ha => by
      obtain ⟨j, hj, rfl⟩ := List.mem_iff_getElem.1 ha
      have hj' : j < i := by omega
      rw [List.getElem_take, ← gs_eq (by omega)]
      exact h1 j hj')
    omega
  have e2 : (zs.drop i).countP p = 0 := List.countP_eq_zero.2 (fun a ha => by
    obtain ⟨j, hj, rfl⟩ := List.mem_iff_getElem.1 ha
    have hj' : i + j < zs.length := by simp at hj; omega
    rw [List.getElem_drop, ← gs_eq hj', h2 (i + j) (by omega) hj']
    simp)
  omega
theorem sl_of_le {a b c : ByteArray} (h : sl b a = false) (k : sl b c = true) : sl a c = true := by
  cases e : sl a c with
  | true => rfl
  | false => have := sl_le_trans e h; rw [k] at this; cases this
theorem found_lessNS {zs : List ByteArray} {v : ByteArray} {i : Nat} (ha : ascS zs = true) (h : Found zs.length (fun j => sl (gs zs j) v = true) i) : lessNS zs v = i := by
  obtain ⟨hi, h1, h2⟩ := h
  have hm := (ascS_iff zs).1 ha
  refine countP_splitS hi (fun j hj => ?_) (fun j hj hl => ?_)
  · have := h1 (i - 1) (by omega)
    rcases Nat.lt_or_ge j (i - 1) with h | h
    · exact sl_of_le (hm j (i - 1) h (by omega)) this
    · obtain rfl : j = i - 1 := by omega
      exact this
  · have := Bool.eq_false_iff.2 (h2 (by omega))
    rcases Nat.lt_or_ge i j with h | h
    · exact sl_le_trans this (hm i j h hl)
    · obtain rfl : j = i := by omega
      exact this
theorem found_hasS {zs : List ByteArray} {v : ByteArray} {i : Nat} (ha : ascS zs = true) (h : Found zs.length (fun j => sl (gs zs j) v = true) i) : hasS zs v = (decide (i < zs.length) && decide (gs zs i = v)) := by
  obtain ⟨hi, h1, h2⟩ := h
  have hm := (ascS_iff zs).1 ha
  rw [Bool.eq_iff_iff]
  unfold hasS
  simp only [List.any_eq_true, decide_eq_true_iff, Bool.and_eq_true]
  constructor
  · rintro ⟨x, hx, rfl⟩
    obtain ⟨j, hj, rfl⟩ := List.mem_iff_getElem.1 hx
    rw [← gs_eq hj] at *
    have hij : i ≤ j := by
      rcases Nat.lt_or_ge j i with h | h
      · have h3 := h1 (i - 1) (by omega)
        rcases Nat.lt_or_ge j (i - 1) with h' | h'
        · have := sl_of_le (hm j (i - 1) h' (by omega)) h3; rw [sl_irrefl] at this; cases this
        · obtain rfl : j = i - 1 := by omega
          rw [sl_irrefl] at h3; cases h3
      · exact h
    refine ⟨by omega, ?_⟩
    have h4 := Bool.eq_false_iff.2 (h2 (by omega))
    rcases Nat.lt_or_ge i j with h | h
    · exact sl_tri h4 (hm i j h hj)
    · obtain rfl : j = i := by omega
      rfl
  · rintro ⟨h, e⟩
    exact ⟨gs zs i, gs_mem h, e⟩
end Go.Proofs.Ythioaialkilbdaa
