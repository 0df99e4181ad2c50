/- Plain lemmas on where two strings part. No program in sight. -/
import Derived.Test.YtadkichkfelbbaaStrPlain
namespace Go.Proofs.Ytadkichkfelbbaa
open Go.RowKit

theorem str_len (s : ByteArray) : s.data.toList.length = s.size := by rw [Array.length_toList]; rfl
theorem take_next {a b : ByteArray} {k : Nat} (ha : k < a.size) (hb : k < b.size) (h : a.data.toList.take k = b.data.toList.take k) (he : a[k] = b[k]) : a.data.toList.take (k + 1) = b.data.toList.take (k + 1) := by
  rw [List.take_succ_eq_append_getElem (by simpa using ha), List.take_succ_eq_append_getElem (by simpa using hb), h]
  exact congrArg (fun x => b.data.toList.take k ++ [x]) he
theorem sl_at {a b : ByteArray} {k : Nat} (ha : k < a.size) (hb : k < b.size) (h : a.data.toList.take k = b.data.toList.take k) (he : a[k] ≠ b[k]) : sl a b = decide (a[k] < b[k]) := by
  unfold sl
  rw [Lib.toList_data, Lib.toList_data]
  exact bytesLess_at _ _ k (by simpa using ha) (by simpa using hb) h he
theorem sl_end {a b : ByteArray} {k : Nat} (ha : k ≤ a.size) (hb : k ≤ b.size) (h : a.data.toList.take k = b.data.toList.take k) (he : k = a.size ∨ k = b.size) : sl a b = decide (a.size < b.size) := by
  unfold sl
  rw [Lib.toList_data, Lib.toList_data, bytesLess_end _ _ k h (by rw [str_len]; exact ha) (by rw [str_len]; exact hb) (by rw [str_len, str_len]; exact he), str_len, str_len]

end Go.Proofs.Ytadkichkfelbbaa
