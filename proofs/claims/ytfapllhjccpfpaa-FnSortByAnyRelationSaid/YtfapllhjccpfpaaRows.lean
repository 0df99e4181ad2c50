/-
  No cell of these rows narrows 'for every input' (looked for: loops, veiled, ifaces, maps, wideKeys, modest, calm, conditions, laid).
  DERIVED. THE GIVEN ROWS OF THIS SEAT. 4 by the template 'for every input the law returns true; each argument reads behind the call as it read before'; 0 by the template 'total and deterministic' (their statements: YtfapllhjccpfpaaTotals.lean).
  GIVEN WITH THE SEED: the statements are not yours to turn. If you find one false, say at which input.
  Laid BY PROGRAM, IN A SANDBOX (cutbox-rows.mjs): the forced cells as the released guide's own fill.sh prints them over the translation d7f81423d1d5f29b… (all of the seat's roots in one cut). By AI agents, Wed Nov 11 2026. No macro, syntax, notation, axiom, sorry.
-/
import Derived.Test.YtfapllhjccpfpaaChecked
import GoSem.Claim
import GoSem.ClaimJoined
import GoSem.ClaimMapViews
import Derived.JoinedTies
import Derived.KernelRfl
namespace Go.Proofs.Ytfapllhjccpfpaa
/- THE CELL 'sum', in the pinned program and in every row, IS THE sha256 OF THE DUMP (.gsa) THAT YtfapllhjccpfpaaProg.lean LOADS. Nothing in Lean hashes anything: it is a label: what it is worth is what the hold of that sum in a sandbox is worth. -/
noncomputable def Try.pinned : Pinned := { name := "ytfapllhjccpfpaa", sum := "d7f81423d1d5f29b24bc471fa4f91b45ecd097aff50bbb5265e03f8804c56212", checked := Try.checked }
namespace Rows
def none {H : Type} : Left H := { results := [], args := [] }

/-- 'laws.FnStableByAnyRelation': WHATEVER THE INPUT: true; the input reads as it did. -/
def fnStableByAnyRelationSpec : ChangeSpec := { name := "fnStableByAnyRelation", fn := fun _ => fun
  | [d1, d2] => { results := [.lit (.bool true)], args := [d1, d2] }
  | _ => none }
def fnStableByAnyRelationRow : OpenClaim := { program := "ytfapllhjccpfpaa", sum := "d7f81423d1d5f29b24bc471fa4f91b45ecd097aff50bbb5265e03f8804c56212", func := "loop.example/lib-g01184/laws.FnStableByAnyRelation", spec := "fnStableByAnyRelation", unfollowed := true, recurses := true, apart := false }
def FnStableByAnyRelationSaid : Prop := fnStableByAnyRelationRow.holds Try.pinned (OpenSpec.ofChange fnStableByAnyRelationSpec)

/-- ITS FALSE NEIGHBOUR: 'it returns false'. Refute it at one input. -/
def fnStableByAnyRelationWrong : ChangeSpec := { name := "fnStableByAnyRelation", fn := fun _ => fun
  | [d1, d2] => { results := [.lit (.bool false)], args := [d1, d2] }
  | _ => none }
def FnStableByAnyRelationWrongFalsely : Prop := fnStableByAnyRelationRow.holds Try.pinned (OpenSpec.ofChange fnStableByAnyRelationWrong)

/-- 'laws.FnStableByOrder': WHATEVER THE INPUT: true; the input reads as it did. -/
def fnStableByOrderSpec : ChangeSpec := { name := "fnStableByOrder", fn := fun _ => fun
  | [d1, d2] => { results := [.lit (.bool true)], args := [d1, d2] }
  | _ => none }
def fnStableByOrderRow : OpenClaim := { program := "ytfapllhjccpfpaa", sum := "d7f81423d1d5f29b24bc471fa4f91b45ecd097aff50bbb5265e03f8804c56212", func := "loop.example/lib-g01184/laws.FnStableByOrder", spec := "fnStableByOrder", unfollowed := true, recurses := true, apart := false }
def FnStableByOrderSaid : Prop := fnStableByOrderRow.holds Try.pinned (OpenSpec.ofChange fnStableByOrderSpec)

/-- ITS FALSE NEIGHBOUR: 'it returns false'. Refute it at one input. -/
def fnStableByOrderWrong : ChangeSpec := { name := "fnStableByOrder", fn := fun _ => fun
  | [d1, d2] => { results := [.lit (.bool false)], args := [d1, d2] }
  | _ => none }
def FnStableByOrderWrongFalsely : Prop := fnStableByOrderRow.holds Try.pinned (OpenSpec.ofChange fnStableByOrderWrong)

/-- 'laws.FnSortByAnyRelation': WHATEVER THE INPUT: true; the input reads as it did. -/
def fnSortByAnyRelationSpec : ChangeSpec := { name := "fnSortByAnyRelation", fn := fun _ => fun
  | [d1, d2] => { results := [.lit (.bool true)], args := [d1, d2] }
  | _ => none }
def fnSortByAnyRelationRow : OpenClaim := { program := "ytfapllhjccpfpaa", sum := "d7f81423d1d5f29b24bc471fa4f91b45ecd097aff50bbb5265e03f8804c56212", func := "loop.example/lib-g01184/laws.FnSortByAnyRelation", spec := "fnSortByAnyRelation", unfollowed := true, recurses := true, apart := false }
def FnSortByAnyRelationSaid : Prop := fnSortByAnyRelationRow.holds Try.pinned (OpenSpec.ofChange fnSortByAnyRelationSpec)

/-- ITS FALSE NEIGHBOUR: 'it returns false'. Refute it at one input. -/
def fnSortByAnyRelationWrong : ChangeSpec := { name := "fnSortByAnyRelation", fn := fun _ => fun
  | [d1, d2] => { results := [.lit (.bool false)], args := [d1, d2] }
  | _ => none }
def FnSortByAnyRelationWrongFalsely : Prop := fnSortByAnyRelationRow.holds Try.pinned (OpenSpec.ofChange fnSortByAnyRelationWrong)

/-- 'laws.FnSortByOrder': WHATEVER THE INPUT: true; the input reads as it did. -/
def fnSortByOrderSpec : ChangeSpec := { name := "fnSortByOrder", fn := fun _ => fun
  | [d1, d2] => { results := [.lit (.bool true)], args := [d1, d2] }
  | _ => none }
def fnSortByOrderRow : OpenClaim := { program := "ytfapllhjccpfpaa", sum := "d7f81423d1d5f29b24bc471fa4f91b45ecd097aff50bbb5265e03f8804c56212", func := "loop.example/lib-g01184/laws.FnSortByOrder", spec := "fnSortByOrder", unfollowed := true, recurses := true, apart := false }
def FnSortByOrderSaid : Prop := fnSortByOrderRow.holds Try.pinned (OpenSpec.ofChange fnSortByOrderSpec)

/-- ITS FALSE NEIGHBOUR: 'it returns false'. Refute it at one input. -/
def fnSortByOrderWrong : ChangeSpec := { name := "fnSortByOrder", fn := fun _ => fun
  | [d1, d2] => { results := [.lit (.bool false)], args := [d1, d2] }
  | _ => none }
def FnSortByOrderWrongFalsely : Prop := fnSortByOrderRow.holds Try.pinned (OpenSpec.ofChange fnSortByOrderWrong)

/- THE SECOND FORM. 'bulk': how many values and letters a reading holds, each counted each time it is reached (what is shared counts as often as it is met; a slice's spare places count too). A statement '..UptoSaid' is the law's where the arguments, and the package variables that the reading takes, are together of bulk at most 1048576: NARROWER than '..Said'. Prove '..Said' where nothing that the law and all that it calls make is longer than what came in: it says more and counts as full. Else prove '..UptoSaid'. A law counts once. -/
mutual
def uptoBulk {H : Type} : DataW H → Nat
  | .lit (.string bytes) => bytes.length + 1
  | .lit _ => 1
  | .nil => 1
  | .ptr d => uptoBulk d + 1
  | .slice elems spare => uptoBulkAll elems + uptoBulkAll spare + 1
  | .agg parts => uptoBulkAll parts + 1
  | .iface _ d => uptoBulk d + 1
  | .map entries => uptoBulkEntries entries + 1
  | .held _ => 1
def uptoBulkAll {H : Type} : List (DataW H) → Nat
  | [] => 0
  | d :: r => uptoBulk d + uptoBulkAll r
def uptoBulkEntries {H : Type} : List (Lit × DataW H) → Nat
  | [] => 0
  | x :: r => uptoBulkEntry x + uptoBulkEntries r
def uptoBulkEntry {H : Type} : Lit × DataW H → Nat
  | (.string bytes, d) => bytes.length + uptoBulk d + 1
  | (_, d) => uptoBulk d + 1
 end
def uptoSmall : (H : Type) → List (DataW H) → Bool := fun _ ds => decide (uptoBulkAll ds ≤ 1048576)
def OpenSpec.upto (s : _root_.Go.ChangeSpec) : _root_.Go.OpenSpec := { _root_.Go.OpenSpec.ofChange s with cond := some uptoSmall }

/-- 'laws.FnStableByAnyRelation', WHERE WHAT IT READS IS OF BULK AT MOST 1048576: true; the input reads as it did. -/
def fnStableByAnyRelationUptoRow : OpenClaim := { program := "ytfapllhjccpfpaa", sum := "d7f81423d1d5f29b24bc471fa4f91b45ecd097aff50bbb5265e03f8804c56212", func := "loop.example/lib-g01184/laws.FnStableByAnyRelation", spec := "fnStableByAnyRelation", unfollowed := true, recurses := true, apart := false, narrowed := true }
def FnStableByAnyRelationUptoSaid : Prop := fnStableByAnyRelationUptoRow.holds Try.pinned (OpenSpec.upto fnStableByAnyRelationSpec)

/-- 'laws.FnStableByOrder', WHERE WHAT IT READS IS OF BULK AT MOST 1048576: true; the input reads as it did. -/
def fnStableByOrderUptoRow : OpenClaim := { program := "ytfapllhjccpfpaa", sum := "d7f81423d1d5f29b24bc471fa4f91b45ecd097aff50bbb5265e03f8804c56212", func := "loop.example/lib-g01184/laws.FnStableByOrder", spec := "fnStableByOrder", unfollowed := true, recurses := true, apart := false, narrowed := true }
def FnStableByOrderUptoSaid : Prop := fnStableByOrderUptoRow.holds Try.pinned (OpenSpec.upto fnStableByOrderSpec)

/-- 'laws.FnSortByAnyRelation', WHERE WHAT IT READS IS OF BULK AT MOST 1048576: true; the input reads as it did. -/
def fnSortByAnyRelationUptoRow : OpenClaim := { program := "ytfapllhjccpfpaa", sum := "d7f81423d1d5f29b24bc471fa4f91b45ecd097aff50bbb5265e03f8804c56212", func := "loop.example/lib-g01184/laws.FnSortByAnyRelation", spec := "fnSortByAnyRelation", unfollowed := true, recurses := true, apart := false, narrowed := true }
def FnSortByAnyRelationUptoSaid : Prop := fnSortByAnyRelationUptoRow.holds Try.pinned (OpenSpec.upto fnSortByAnyRelationSpec)

/-- 'laws.FnSortByOrder', WHERE WHAT IT READS IS OF BULK AT MOST 1048576: true; the input reads as it did. -/
def fnSortByOrderUptoRow : OpenClaim := { program := "ytfapllhjccpfpaa", sum := "d7f81423d1d5f29b24bc471fa4f91b45ecd097aff50bbb5265e03f8804c56212", func := "loop.example/lib-g01184/laws.FnSortByOrder", spec := "fnSortByOrder", unfollowed := true, recurses := true, apart := false, narrowed := true }
def FnSortByOrderUptoSaid : Prop := fnSortByOrderUptoRow.holds Try.pinned (OpenSpec.upto fnSortByOrderSpec)

end Rows
end Go.Proofs.Ytfapllhjccpfpaa
