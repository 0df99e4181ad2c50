/- Plain lemmas: the complement of a number. No program in sight. -/
import Derived.Test.YtnondbhmoflpjaaSortPlain
import Derived.Laws.BitsAllLaws
import Derived.Laws.BitsLemmas
namespace Go.Proofs.Ytnondbhmoflpjaa
open Go.RowKit

/-- Go's '^v' of an int, as the model has it. -/
def cpl (v : Int) : Int := bits .xor .i64 (-1) v
theorem cpl_eq {v : Int} (h : (Lit.int .i64 v).wf = true) : cpl v = -v - 1 := by
  have hr : -9223372036854775808 ≤ v ∧ v ≤ 9223372036854775807 := by
    have := h
    simp [Lit.wf, IntKind.min, IntKind.max, IntKind.signed, IntKind.bits] at this
    omega
  unfold cpl
  show IntKind.i64.wrap ((BitVec.ofInt 64 (-1) ^^^ BitVec.ofInt 64 v).toNat : Int) = _
  have e1 : BitVec.ofInt 64 (-1) ^^^ BitVec.ofInt 64 v = ~~~ (BitVec.ofInt 64 v) := by
    rw [show BitVec.ofInt 64 (-1) = BitVec.allOnes 64 by decide, BitVec.allOnes_xor]
  have e2 : ((BitVec.ofInt 64 v).toNat : Int) = v % 18446744073709551616 := by
    rw [BitVec.toNat_ofInt]
    omega
  rw [e1, BitVec.toNat_not, IntKind.wrap_i64]
  have : (BitVec.ofInt 64 v).toNat < 2 ^ 64 := (BitVec.ofInt 64 v).isLt
  omega
theorem sortI_cpl {zs : List Int} (h : ∀ z ∈ zs, (Lit.int .i64 z).wf = true) : sortI (zs.map cpl) = (sortI zs).reverse.map cpl := by
  refine asc_unique (asc_sortI _) ?_ ((perm_sortI _).trans ?_)
  · have ha := asc_sortI zs
    unfold ascB at *
    rw [decide_eq_true_iff] at *
    rw [List.pairwise_map, List.pairwise_reverse]
    refine ha.imp_of_mem ?_
    intro a b hx hy hab
    rw [cpl_eq (h a ((perm_sortI zs).subset hx)), cpl_eq (h b ((perm_sortI zs).subset hy))]
    omega
  · exact ((perm_sortI zs).symm.trans (List.reverse_perm _).symm).map cpl
theorem gi_mirror {zs : List Int} (h : ∀ z ∈ zs, (Lit.int .i64 z).wf = true) {k : Nat} (hk : k < zs.length) : gi (sortI (zs.map cpl)) k = cpl (gi (sortI zs) (zs.length - 1 - k)) := by
  rw [sortI_cpl h]
  have hl := length_sortI zs
  rw [gi_eq (by simp; omega), List.getElem_map, List.getElem_reverse, gi_eq (by omega)]
  congr 2
  omega
end Go.Proofs.Ytnondbhmoflpjaa
