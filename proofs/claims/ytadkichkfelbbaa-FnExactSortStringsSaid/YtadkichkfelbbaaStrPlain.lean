/- Plain lemmas on strings: their order byte by byte. No program in sight. -/
import Derived.Test.YtadkichkfelbbaaPlain
import Derived.Lib.Strings
namespace Go.Proofs.Ytadkichkfelbbaa
open Go.RowKit

/-- Go's '<' on strings, as the model has it. -/
def sl (a b : ByteArray) : Bool := Op.bytesLess a.toList b.toList

theorem bytesLess_lt : ∀ (x y : List UInt8), Op.bytesLess x y = decide (x < y)
  | [], [] => by simp [Op.bytesLess]
  | _ :: _, [] => by simp [Op.bytesLess]
  | [], _ :: _ => by simp [Op.bytesLess]
  | a :: x, b :: y => by
    rw [Op.bytesLess, bytesLess_lt x y]
    simp only [List.cons_lt_cons_iff]
    by_cases h1 : a < b <;> by_cases h2 : a = b <;> by_cases h3 : x < y <;> simp [h1, h2, h3]

theorem sl_eq (a b : ByteArray) : sl a b = decide (a.data.toList < b.data.toList) := by
  unfold sl
  rw [bytesLess_lt, Lib.toList_data, Lib.toList_data]
theorem bytes_eq_of {a b : ByteArray} (h : a.data.toList = b.data.toList) : a = b := by
  cases a; cases b
  simp only [ByteArray.mk.injEq]
  exact Array.toList_inj.1 h
theorem sl_irrefl (a : ByteArray) : sl a a = false := by rw [sl_eq]; simp [List.lt_irrefl]
theorem sl_trans {a b c : ByteArray} (h : sl a b = true) (k : sl b c = true) : sl a c = true := by
  rw [sl_eq, decide_eq_true_iff] at *
  exact List.lt_trans h k
theorem sl_tri {a b : ByteArray} (h : sl a b = false) (k : sl b a = false) : a = b := by
  rw [sl_eq, decide_eq_false_iff_not] at *
  exact bytes_eq_of (List.le_antisymm (List.not_lt.1 k) (List.not_lt.1 h))
theorem sl_asymm {a b : ByteArray} (h : sl a b = true) : sl b a = false := by
  cases k : sl b a with
  | false => rfl
  | true => have := sl_trans h k; rw [sl_irrefl] at this; cases this
/-- 'not before' is transitive. -/
theorem sl_le_trans {a b c : ByteArray} (h : sl b a = false) (k : sl c b = false) : sl c a = false := by
  cases e : sl c a with
  | false => rfl
  | true =>
    cases f : sl a b with
    | true => have := sl_trans e f; rw [this] at k; cases k
    | false => have := sl_tri f h; subst this; rw [e] at k; cases k
theorem str_eq_iff (a b : ByteArray) : (a.toList == b.toList) = decide (a = b) := by
  rw [Bool.eq_iff_iff, beq_iff_eq, decide_eq_true_iff, Lib.toList_data, Lib.toList_data]
  exact ⟨bytes_eq_of, fun h => by rw [h]⟩

theorem bytesLess_at : ∀ (x y : List UInt8) (k : Nat) (hx : k < x.length) (hy : k < y.length), x.take k = y.take k → x[k] ≠ y[k] → Op.bytesLess x y = decide (x[k] < y[k])
  | [], _, _, hx, _, _, _ => absurd hx (by simp)
  | _ :: _, [], _, _, hy, _, _ => absurd hy (by simp)
  | a :: x, b :: y, 0, _, _, _, hne => by
    have hne' : ¬ a = b := hne
    simp [Op.bytesLess, hne']
  | a :: x, b :: y, k + 1, hx, hy, he, hne => by
    simp only [List.take_succ_cons, List.cons.injEq] at he
    obtain ⟨rfl, he⟩ := he
    have := bytesLess_at x y k (by simpa using hx) (by simpa using hy) he (by simpa using hne)
    simp [Op.bytesLess, this]
theorem bytesLess_end : ∀ (x y : List UInt8) (k : Nat), x.take k = y.take k → k ≤ x.length → k ≤ y.length → (k = x.length ∨ k = y.length) → Op.bytesLess x y = decide (x.length < y.length)
  | [], [], _, _, _, _, _ => by simp [Op.bytesLess]
  | [], _ :: _, _, _, _, _, _ => by simp [Op.bytesLess]
  | _ :: _, [], _, _, _, _, _ => by simp [Op.bytesLess]
  | a :: x, b :: y, 0, _, _, _, h => by simp at h
  | a :: x, b :: y, k + 1, he, h1, h2, h => by
    simp only [List.take_succ_cons, List.cons.injEq] at he
    obtain ⟨rfl, he⟩ := he
    have := bytesLess_end x y k he (by simpa using h1) (by simpa using h2) (by simpa using h)
    simp [Op.bytesLess, this]

theorem eq_of_gs {xs ys : List ByteArray} (hl : xs.length = ys.length) (h : ∀ j, j < xs.length → gs xs j = gs ys j) : xs = ys := by
  apply List.ext_getElem hl
  intro i h1 h2
  have := h i h1
  rwa [gs_eq h1, gs_eq h2] at this

/-- No string is before one ahead of it. -/
def ascS (ss : List ByteArray) : Bool := decide (ss.Pairwise (fun a b => sl b a = false))
theorem ascS_iff (ss : List ByteArray) : ascS ss = true ↔ ∀ i j, i < j → j < ss.length → sl (gs ss j) (gs ss i) = false := by
  unfold ascS
  rw [decide_eq_true_iff, List.pairwise_iff_getElem]
  constructor
  · intro h i j hij hj
    rw [gs_eq hj, gs_eq (show i < ss.length by omega)]
    exact h i j (by omega) hj hij
  · intro h i j hi hj hij
    have := h i j hij hj
    rwa [gs_eq hi, gs_eq hj] at this
theorem ascS_of_adj {ss : List ByteArray} (h : ∀ i, i + 1 < ss.length → sl (gs ss (i + 1)) (gs ss i) = false) : ascS ss = true := by
  rw [ascS_iff]
  intro i j hij
  induction j with
  | zero => omega
  | succ j ih =>
    intro hj
    rcases Nat.lt_or_ge i j with h1 | h1
    · exact sl_le_trans (ih h1 (by omega)) (h j hj)
    · obtain rfl : i = j := by omega
      exact h i hj
theorem ascS_false {ss : List ByteArray} {i j : Nat} (hij : i < j) (hj : j < ss.length) (h : sl (gs ss j) (gs ss i) = true) : ascS ss = false := by
  cases hb : ascS ss with
  | false => rfl
  | true => have := (ascS_iff ss).1 hb i j hij hj; rw [h] at this; cases this

/-- Is a string read as bytes no longer than the machine's ints. -/
def szStr (ss : List ByteArray) (left : Int) : Int :=
  match ss with
  | [] => left
  | s :: r => if left - s.size < 0 then -1 else szStr r (left - s.size)
end Go.Proofs.Ytadkichkfelbbaa
