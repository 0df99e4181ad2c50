/- Plain lemmas on sorted lists of strings. No program in sight. -/
import Derived.Test.YtadkichkfelbbaaStrPlain
import Derived.Test.YtadkichkfelbbaaStabPlain
namespace Go.Proofs.Ytadkichkfelbbaa

def bytesOf (s : ByteArray) : List UInt8 := s.data.toList
def ofBytes (l : List UInt8) : ByteArray := ⟨l.toArray⟩
theorem ofBytes_bytesOf (s : ByteArray) : ofBytes (bytesOf s) = s := by cases s; simp [ofBytes, bytesOf]
theorem bytesOf_ofBytes (l : List UInt8) : bytesOf (ofBytes l) = l := by simp [ofBytes, bytesOf]
/-- The strings in ascending order. -/
def sortS (ss : List ByteArray) : List ByteArray := ((ss.map bytesOf).mergeSort fun x y => decide (x ≤ y)).map ofBytes
theorem length_sortS (ss : List ByteArray) : (sortS ss).length = ss.length := by simp [sortS]
theorem sortS_nil : sortS [] = [] := by simp [sortS]
theorem perm_sortS (ss : List ByteArray) : (sortS ss).Perm ss := by
  have h := (List.mergeSort_perm (ss.map bytesOf) (fun x y => decide (x ≤ y))).map ofBytes
  have e : (ss.map bytesOf).map ofBytes = ss := by
    rw [List.map_map]
    have : ofBytes ∘ bytesOf = id := funext ofBytes_bytesOf
    rw [this, List.map_id]
  rw [e] at h
  exact h
theorem srt_sortS (ss : List ByteArray) : Srt sl (sortS ss) := by
  unfold sortS Srt
  rw [List.pairwise_map]
  have h := List.pairwise_mergeSort (le := fun x y : List UInt8 => decide (x ≤ y)) (fun a b c h1 h2 => by simp only [decide_eq_true_iff] at *; exact List.le_trans h1 h2) (fun a b => by
    simp only [Bool.or_eq_true, decide_eq_true_iff]; exact List.le_total a b) (ss.map bytesOf)
  refine h.imp (fun {a b} hab => ?_)
  rw [decide_eq_true_iff] at hab
  rw [sl_eq, decide_eq_false_iff_not]
  show ¬ (ofBytes b).data.toList < (ofBytes a).data.toList
  rw [show (ofBytes b).data.toList = b from bytesOf_ofBytes b, show (ofBytes a).data.toList = a from bytesOf_ofBytes a]
  exact List.not_lt.2 hab
theorem asc_sortS (ss : List ByteArray) : ascS (sortS ss) = true := by unfold ascS; rw [decide_eq_true_iff]; exact srt_sortS ss
theorem weak_sl (S : ByteArray → Prop) : Weak sl S := ⟨fun _ _ _ _ h => sl_asymm h, fun _ _ _ _ _ _ h k => sl_le_trans h k⟩
theorem stable_sortS (ss : List ByteArray) : StableOf sl ss (sortS ss) := StableOf.of_total (weak_sl _) (fun _ _ _ _ h k => sl_tri h k) (perm_sortS ss) (srt_sortS ss)
theorem count_sortS (ss : List ByteArray) (v : ByteArray) : (sortS ss).count v = ss.count v := (perm_sortS ss).count_eq v
end Go.Proofs.Ytadkichkfelbbaa
