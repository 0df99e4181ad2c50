/-
  No cell of these rows narrows 'for every input' (looked for: loops, veiled, ifaces, maps, wideKeys, modest, calm, conditions, laid).
  DERIVED. THE GIVEN ROWS OF THIS SEAT. 12 by the template 'for every input the law returns true; each argument reads behind the call as it read before'; 0 by the template 'total and deterministic' (their statements: YtnondbhmoflpjaaTotals.lean).
  GIVEN WITH THE SEED: the statements are not yours to turn. If you find one false, say at which input.
  Laid BY PROGRAM, IN A SANDBOX (cutbox-rows.mjs): the forced cells as the released guide's own fill.sh prints them over the translation 053a4d9d402949d2… (all of the seat's roots in one cut). By AI agents, Wed Nov 11 2026. No macro, syntax, notation, axiom, sorry.
-/
import Derived.Test.YtnondbhmoflpjaaChecked
import GoSem.Claim
import GoSem.ClaimJoined
import GoSem.ClaimMapViews
import Derived.JoinedTies
import Derived.KernelRfl
namespace Go.Proofs.Ytnondbhmoflpjaa
/- THE CELL 'sum', in the pinned program and in every row, IS THE sha256 OF THE DUMP (.gsa) THAT YtnondbhmoflpjaaProg.lean LOADS. Nothing in Lean hashes anything: it is a label: what it is worth is what the hold of that sum in a sandbox is worth. -/
noncomputable def Try.pinned : Pinned := { name := "ytnondbhmoflpjaa", sum := "053a4d9d402949d23a728bf66f58b7253845d013059d1f6026e1db28230191e7", checked := Try.checked }
namespace Rows
def none {H : Type} : Left H := { results := [], args := [] }

/-- 'laws.FnExactSortInts': WHATEVER THE INPUT: true; the input reads as it did. -/
def fnExactSortIntsSpec : ChangeSpec := { name := "fnExactSortInts", fn := fun _ => fun
  | [d] => { results := [.lit (.bool true)], args := [d] }
  | _ => none }
def fnExactSortIntsRow : OpenClaim := { program := "ytnondbhmoflpjaa", sum := "053a4d9d402949d23a728bf66f58b7253845d013059d1f6026e1db28230191e7", func := "loop.example/lib-g01184/laws.FnExactSortInts", spec := "fnExactSortInts", recurses := true, apart := false }
def FnExactSortIntsSaid : Prop := fnExactSortIntsRow.holds Try.pinned (OpenSpec.ofChange fnExactSortIntsSpec)

/-- ITS FALSE NEIGHBOUR: 'it returns false'. Refute it at one input. -/
def fnExactSortIntsWrong : ChangeSpec := { name := "fnExactSortInts", fn := fun _ => fun
  | [d] => { results := [.lit (.bool false)], args := [d] }
  | _ => none }
def FnExactSortIntsWrongFalsely : Prop := fnExactSortIntsRow.holds Try.pinned (OpenSpec.ofChange fnExactSortIntsWrong)

/-- 'laws.FnSortAgain': WHATEVER THE INPUT: true; the input reads as it did. -/
def fnSortAgainSpec : ChangeSpec := { name := "fnSortAgain", fn := fun _ => fun
  | [d] => { results := [.lit (.bool true)], args := [d] }
  | _ => none }
def fnSortAgainRow : OpenClaim := { program := "ytnondbhmoflpjaa", sum := "053a4d9d402949d23a728bf66f58b7253845d013059d1f6026e1db28230191e7", func := "loop.example/lib-g01184/laws.FnSortAgain", spec := "fnSortAgain", recurses := true, apart := false }
def FnSortAgainSaid : Prop := fnSortAgainRow.holds Try.pinned (OpenSpec.ofChange fnSortAgainSpec)

/-- ITS FALSE NEIGHBOUR: 'it returns false'. Refute it at one input. -/
def fnSortAgainWrong : ChangeSpec := { name := "fnSortAgain", fn := fun _ => fun
  | [d] => { results := [.lit (.bool false)], args := [d] }
  | _ => none }
def FnSortAgainWrongFalsely : Prop := fnSortAgainRow.holds Try.pinned (OpenSpec.ofChange fnSortAgainWrong)

/-- 'laws.FnSortIntsSorts': WHATEVER THE INPUT: true; the input reads as it did. -/
def fnSortIntsSortsSpec : ChangeSpec := { name := "fnSortIntsSorts", fn := fun _ => fun
  | [d] => { results := [.lit (.bool true)], args := [d] }
  | _ => none }
def fnSortIntsSortsRow : OpenClaim := { program := "ytnondbhmoflpjaa", sum := "053a4d9d402949d23a728bf66f58b7253845d013059d1f6026e1db28230191e7", func := "loop.example/lib-g01184/laws.FnSortIntsSorts", spec := "fnSortIntsSorts", recurses := true, apart := false }
def FnSortIntsSortsSaid : Prop := fnSortIntsSortsRow.holds Try.pinned (OpenSpec.ofChange fnSortIntsSortsSpec)

/-- ITS FALSE NEIGHBOUR: 'it returns false'. Refute it at one input. -/
def fnSortIntsSortsWrong : ChangeSpec := { name := "fnSortIntsSorts", fn := fun _ => fun
  | [d] => { results := [.lit (.bool false)], args := [d] }
  | _ => none }
def FnSortIntsSortsWrongFalsely : Prop := fnSortIntsSortsRow.holds Try.pinned (OpenSpec.ofChange fnSortIntsSortsWrong)

/-- 'laws.FnSortIsMonotone': WHATEVER THE INPUT: true; the input reads as it did. -/
def fnSortIsMonotoneSpec : ChangeSpec := { name := "fnSortIsMonotone", fn := fun _ => fun
  | [d1, d2, d3] => { results := [.lit (.bool true)], args := [d1, d2, d3] }
  | _ => none }
def fnSortIsMonotoneRow : OpenClaim := { program := "ytnondbhmoflpjaa", sum := "053a4d9d402949d23a728bf66f58b7253845d013059d1f6026e1db28230191e7", func := "loop.example/lib-g01184/laws.FnSortIsMonotone", spec := "fnSortIsMonotone", recurses := true, apart := false }
def FnSortIsMonotoneSaid : Prop := fnSortIsMonotoneRow.holds Try.pinned (OpenSpec.ofChange fnSortIsMonotoneSpec)

/-- ITS FALSE NEIGHBOUR: 'it returns false'. Refute it at one input. -/
def fnSortIsMonotoneWrong : ChangeSpec := { name := "fnSortIsMonotone", fn := fun _ => fun
  | [d1, d2, d3] => { results := [.lit (.bool false)], args := [d1, d2, d3] }
  | _ => none }
def FnSortIsMonotoneWrongFalsely : Prop := fnSortIsMonotoneRow.holds Try.pinned (OpenSpec.ofChange fnSortIsMonotoneWrong)

/-- 'laws.FnSortMirrored': WHATEVER THE INPUT: true; the input reads as it did. -/
def fnSortMirroredSpec : ChangeSpec := { name := "fnSortMirrored", fn := fun _ => fun
  | [d] => { results := [.lit (.bool true)], args := [d] }
  | _ => none }
def fnSortMirroredRow : OpenClaim := { program := "ytnondbhmoflpjaa", sum := "053a4d9d402949d23a728bf66f58b7253845d013059d1f6026e1db28230191e7", func := "loop.example/lib-g01184/laws.FnSortMirrored", spec := "fnSortMirrored", recurses := true, apart := false }
def FnSortMirroredSaid : Prop := fnSortMirroredRow.holds Try.pinned (OpenSpec.ofChange fnSortMirroredSpec)

/-- ITS FALSE NEIGHBOUR: 'it returns false'. Refute it at one input. -/
def fnSortMirroredWrong : ChangeSpec := { name := "fnSortMirrored", fn := fun _ => fun
  | [d] => { results := [.lit (.bool false)], args := [d] }
  | _ => none }
def FnSortMirroredWrongFalsely : Prop := fnSortMirroredRow.holds Try.pinned (OpenSpec.ofChange fnSortMirroredWrong)

/-- 'laws.FnSortOfJoined': WHATEVER THE INPUT: true; the input reads as it did. -/
def fnSortOfJoinedSpec : ChangeSpec := { name := "fnSortOfJoined", fn := fun _ => fun
  | [d1, d2] => { results := [.lit (.bool true)], args := [d1, d2] }
  | _ => none }
def fnSortOfJoinedRow : OpenClaim := { program := "ytnondbhmoflpjaa", sum := "053a4d9d402949d23a728bf66f58b7253845d013059d1f6026e1db28230191e7", func := "loop.example/lib-g01184/laws.FnSortOfJoined", spec := "fnSortOfJoined", recurses := true, apart := false }
def FnSortOfJoinedSaid : Prop := fnSortOfJoinedRow.holds Try.pinned (OpenSpec.ofChange fnSortOfJoinedSpec)

/-- ITS FALSE NEIGHBOUR: 'it returns false'. Refute it at one input. -/
def fnSortOfJoinedWrong : ChangeSpec := { name := "fnSortOfJoined", fn := fun _ => fun
  | [d1, d2] => { results := [.lit (.bool false)], args := [d1, d2] }
  | _ => none }
def FnSortOfJoinedWrongFalsely : Prop := fnSortOfJoinedRow.holds Try.pinned (OpenSpec.ofChange fnSortOfJoinedWrong)

/-- 'laws.FnSortPlaces': WHATEVER THE INPUT: true; the input reads as it did. -/
def fnSortPlacesSpec : ChangeSpec := { name := "fnSortPlaces", fn := fun _ => fun
  | [d] => { results := [.lit (.bool true)], args := [d] }
  | _ => none }
def fnSortPlacesRow : OpenClaim := { program := "ytnondbhmoflpjaa", sum := "053a4d9d402949d23a728bf66f58b7253845d013059d1f6026e1db28230191e7", func := "loop.example/lib-g01184/laws.FnSortPlaces", spec := "fnSortPlaces", recurses := true, apart := false }
def FnSortPlacesSaid : Prop := fnSortPlacesRow.holds Try.pinned (OpenSpec.ofChange fnSortPlacesSpec)

/-- ITS FALSE NEIGHBOUR: 'it returns false'. Refute it at one input. -/
def fnSortPlacesWrong : ChangeSpec := { name := "fnSortPlaces", fn := fun _ => fun
  | [d] => { results := [.lit (.bool false)], args := [d] }
  | _ => none }
def FnSortPlacesWrongFalsely : Prop := fnSortPlacesRow.holds Try.pinned (OpenSpec.ofChange fnSortPlacesWrong)

/-- 'laws.FnIsSortedInts': WHATEVER THE INPUT: true; the input reads as it did. -/
def fnIsSortedIntsSpec : ChangeSpec := { name := "fnIsSortedInts", fn := fun _ => fun
  | [d] => { results := [.lit (.bool true)], args := [d] }
  | _ => none }
def fnIsSortedIntsRow : OpenClaim := { program := "ytnondbhmoflpjaa", sum := "053a4d9d402949d23a728bf66f58b7253845d013059d1f6026e1db28230191e7", func := "loop.example/lib-g01184/laws.FnIsSortedInts", spec := "fnIsSortedInts", recurses := true, apart := false }
def FnIsSortedIntsSaid : Prop := fnIsSortedIntsRow.holds Try.pinned (OpenSpec.ofChange fnIsSortedIntsSpec)

/-- ITS FALSE NEIGHBOUR: 'it returns false'. Refute it at one input. -/
def fnIsSortedIntsWrong : ChangeSpec := { name := "fnIsSortedInts", fn := fun _ => fun
  | [d] => { results := [.lit (.bool false)], args := [d] }
  | _ => none }
def FnIsSortedIntsWrongFalsely : Prop := fnIsSortedIntsRow.holds Try.pinned (OpenSpec.ofChange fnIsSortedIntsWrong)

/-- 'laws.FnCompactOfSorted': WHATEVER THE INPUT: true; the input reads as it did. -/
def fnCompactOfSortedSpec : ChangeSpec := { name := "fnCompactOfSorted", fn := fun _ => fun
  | [d] => { results := [.lit (.bool true)], args := [d] }
  | _ => none }
def fnCompactOfSortedRow : OpenClaim := { program := "ytnondbhmoflpjaa", sum := "053a4d9d402949d23a728bf66f58b7253845d013059d1f6026e1db28230191e7", func := "loop.example/lib-g01184/laws.FnCompactOfSorted", spec := "fnCompactOfSorted", recurses := true, apart := false }
def FnCompactOfSortedSaid : Prop := fnCompactOfSortedRow.holds Try.pinned (OpenSpec.ofChange fnCompactOfSortedSpec)

/-- ITS FALSE NEIGHBOUR: 'it returns false'. Refute it at one input. -/
def fnCompactOfSortedWrong : ChangeSpec := { name := "fnCompactOfSorted", fn := fun _ => fun
  | [d] => { results := [.lit (.bool false)], args := [d] }
  | _ => none }
def FnCompactOfSortedWrongFalsely : Prop := fnCompactOfSortedRow.holds Try.pinned (OpenSpec.ofChange fnCompactOfSortedWrong)

/-- 'laws.FnSortOfMixed': WHATEVER THE INPUT: true; the input reads as it did. -/
def fnSortOfMixedSpec : ChangeSpec := { name := "fnSortOfMixed", fn := fun _ => fun
  | [d1, d2] => { results := [.lit (.bool true)], args := [d1, d2] }
  | _ => none }
def fnSortOfMixedRow : OpenClaim := { program := "ytnondbhmoflpjaa", sum := "053a4d9d402949d23a728bf66f58b7253845d013059d1f6026e1db28230191e7", func := "loop.example/lib-g01184/laws.FnSortOfMixed", spec := "fnSortOfMixed", recurses := true, apart := false }
def FnSortOfMixedSaid : Prop := fnSortOfMixedRow.holds Try.pinned (OpenSpec.ofChange fnSortOfMixedSpec)

/-- ITS FALSE NEIGHBOUR: 'it returns false'. Refute it at one input. -/
def fnSortOfMixedWrong : ChangeSpec := { name := "fnSortOfMixed", fn := fun _ => fun
  | [d1, d2] => { results := [.lit (.bool false)], args := [d1, d2] }
  | _ => none }
def FnSortOfMixedWrongFalsely : Prop := fnSortOfMixedRow.holds Try.pinned (OpenSpec.ofChange fnSortOfMixedWrong)

/-- 'laws.FnMinIsFirst': WHATEVER THE INPUT: true; the input reads as it did. -/
def fnMinIsFirstSpec : ChangeSpec := { name := "fnMinIsFirst", fn := fun _ => fun
  | [d] => { results := [.lit (.bool true)], args := [d] }
  | _ => none }
def fnMinIsFirstRow : OpenClaim := { program := "ytnondbhmoflpjaa", sum := "053a4d9d402949d23a728bf66f58b7253845d013059d1f6026e1db28230191e7", func := "loop.example/lib-g01184/laws.FnMinIsFirst", spec := "fnMinIsFirst", unfollowed := true, recurses := true, apart := false }
def FnMinIsFirstSaid : Prop := fnMinIsFirstRow.holds Try.pinned (OpenSpec.ofChange fnMinIsFirstSpec)

/-- ITS FALSE NEIGHBOUR: 'it returns false'. Refute it at one input. -/
def fnMinIsFirstWrong : ChangeSpec := { name := "fnMinIsFirst", fn := fun _ => fun
  | [d] => { results := [.lit (.bool false)], args := [d] }
  | _ => none }
def FnMinIsFirstWrongFalsely : Prop := fnMinIsFirstRow.holds Try.pinned (OpenSpec.ofChange fnMinIsFirstWrong)

/-- 'laws.FnInsertWhereFound': WHATEVER THE INPUT: true; the input reads as it did. -/
def fnInsertWhereFoundSpec : ChangeSpec := { name := "fnInsertWhereFound", fn := fun _ => fun
  | [d1, d2] => { results := [.lit (.bool true)], args := [d1, d2] }
  | _ => none }
def fnInsertWhereFoundRow : OpenClaim := { program := "ytnondbhmoflpjaa", sum := "053a4d9d402949d23a728bf66f58b7253845d013059d1f6026e1db28230191e7", func := "loop.example/lib-g01184/laws.FnInsertWhereFound", spec := "fnInsertWhereFound", inPlace := ["slices.overlaps[int]"], unfollowed := true, recurses := true, apart := false }
def FnInsertWhereFoundSaid : Prop := fnInsertWhereFoundRow.holds Try.pinned (OpenSpec.ofChange fnInsertWhereFoundSpec)

/-- ITS FALSE NEIGHBOUR: 'it returns false'. Refute it at one input. -/
def fnInsertWhereFoundWrong : ChangeSpec := { name := "fnInsertWhereFound", fn := fun _ => fun
  | [d1, d2] => { results := [.lit (.bool false)], args := [d1, d2] }
  | _ => none }
def FnInsertWhereFoundWrongFalsely : Prop := fnInsertWhereFoundRow.holds Try.pinned (OpenSpec.ofChange fnInsertWhereFoundWrong)

/- THE SECOND FORM. 'bulk': how many values and letters a reading holds, each counted each time it is reached (what is shared counts as often as it is met; a slice's spare places count too). A statement '..UptoSaid' is the law's where the arguments, and the package variables that the reading takes, are together of bulk at most 1048576: NARROWER than '..Said'. Prove '..Said' where nothing that the law and all that it calls make is longer than what came in: it says more and counts as full. Else prove '..UptoSaid'. A law counts once. -/
mutual
def uptoBulk {H : Type} : DataW H → Nat
  | .lit (.string bytes) => bytes.length + 1
  | .lit _ => 1
  | .nil => 1
  | .ptr d => uptoBulk d + 1
  | .slice elems spare => uptoBulkAll elems + uptoBulkAll spare + 1
  | .agg parts => uptoBulkAll parts + 1
  | .iface _ d => uptoBulk d + 1
  | .map entries => uptoBulkEntries entries + 1
  | .held _ => 1
def uptoBulkAll {H : Type} : List (DataW H) → Nat
  | [] => 0
  | d :: r => uptoBulk d + uptoBulkAll r
def uptoBulkEntries {H : Type} : List (Lit × DataW H) → Nat
  | [] => 0
  | x :: r => uptoBulkEntry x + uptoBulkEntries r
def uptoBulkEntry {H : Type} : Lit × DataW H → Nat
  | (.string bytes, d) => bytes.length + uptoBulk d + 1
  | (_, d) => uptoBulk d + 1
 end
def uptoSmall : (H : Type) → List (DataW H) → Bool := fun _ ds => decide (uptoBulkAll ds ≤ 1048576)
def OpenSpec.upto (s : _root_.Go.ChangeSpec) : _root_.Go.OpenSpec := { _root_.Go.OpenSpec.ofChange s with cond := some uptoSmall }

/-- 'laws.FnExactSortInts', WHERE WHAT IT READS IS OF BULK AT MOST 1048576: true; the input reads as it did. -/
def fnExactSortIntsUptoRow : OpenClaim := { program := "ytnondbhmoflpjaa", sum := "053a4d9d402949d23a728bf66f58b7253845d013059d1f6026e1db28230191e7", func := "loop.example/lib-g01184/laws.FnExactSortInts", spec := "fnExactSortInts", recurses := true, apart := false, narrowed := true }
def FnExactSortIntsUptoSaid : Prop := fnExactSortIntsUptoRow.holds Try.pinned (OpenSpec.upto fnExactSortIntsSpec)

/-- 'laws.FnSortAgain', WHERE WHAT IT READS IS OF BULK AT MOST 1048576: true; the input reads as it did. -/
def fnSortAgainUptoRow : OpenClaim := { program := "ytnondbhmoflpjaa", sum := "053a4d9d402949d23a728bf66f58b7253845d013059d1f6026e1db28230191e7", func := "loop.example/lib-g01184/laws.FnSortAgain", spec := "fnSortAgain", recurses := true, apart := false, narrowed := true }
def FnSortAgainUptoSaid : Prop := fnSortAgainUptoRow.holds Try.pinned (OpenSpec.upto fnSortAgainSpec)

/-- 'laws.FnSortIntsSorts', WHERE WHAT IT READS IS OF BULK AT MOST 1048576: true; the input reads as it did. -/
def fnSortIntsSortsUptoRow : OpenClaim := { program := "ytnondbhmoflpjaa", sum := "053a4d9d402949d23a728bf66f58b7253845d013059d1f6026e1db28230191e7", func := "loop.example/lib-g01184/laws.FnSortIntsSorts", spec := "fnSortIntsSorts", recurses := true, apart := false, narrowed := true }
def FnSortIntsSortsUptoSaid : Prop := fnSortIntsSortsUptoRow.holds Try.pinned (OpenSpec.upto fnSortIntsSortsSpec)

/-- 'laws.FnSortIsMonotone', WHERE WHAT IT READS IS OF BULK AT MOST 1048576: true; the input reads as it did. -/
def fnSortIsMonotoneUptoRow : OpenClaim := { program := "ytnondbhmoflpjaa", sum := "053a4d9d402949d23a728bf66f58b7253845d013059d1f6026e1db28230191e7", func := "loop.example/lib-g01184/laws.FnSortIsMonotone", spec := "fnSortIsMonotone", recurses := true, apart := false, narrowed := true }
def FnSortIsMonotoneUptoSaid : Prop := fnSortIsMonotoneUptoRow.holds Try.pinned (OpenSpec.upto fnSortIsMonotoneSpec)

/-- 'laws.FnSortMirrored', WHERE WHAT IT READS IS OF BULK AT MOST 1048576: true; the input reads as it did. -/
def fnSortMirroredUptoRow : OpenClaim := { program := "ytnondbhmoflpjaa", sum := "053a4d9d402949d23a728bf66f58b7253845d013059d1f6026e1db28230191e7", func := "loop.example/lib-g01184/laws.FnSortMirrored", spec := "fnSortMirrored", recurses := true, apart := false, narrowed := true }
def FnSortMirroredUptoSaid : Prop := fnSortMirroredUptoRow.holds Try.pinned (OpenSpec.upto fnSortMirroredSpec)

/-- 'laws.FnSortOfJoined', WHERE WHAT IT READS IS OF BULK AT MOST 1048576: true; the input reads as it did. -/
def fnSortOfJoinedUptoRow : OpenClaim := { program := "ytnondbhmoflpjaa", sum := "053a4d9d402949d23a728bf66f58b7253845d013059d1f6026e1db28230191e7", func := "loop.example/lib-g01184/laws.FnSortOfJoined", spec := "fnSortOfJoined", recurses := true, apart := false, narrowed := true }
def FnSortOfJoinedUptoSaid : Prop := fnSortOfJoinedUptoRow.holds Try.pinned (OpenSpec.upto fnSortOfJoinedSpec)

/-- 'laws.FnSortPlaces', WHERE WHAT IT READS IS OF BULK AT MOST 1048576: true; the input reads as it did. -/
def fnSortPlacesUptoRow : OpenClaim := { program := "ytnondbhmoflpjaa", sum := "053a4d9d402949d23a728bf66f58b7253845d013059d1f6026e1db28230191e7", func := "loop.example/lib-g01184/laws.FnSortPlaces", spec := "fnSortPlaces", recurses := true, apart := false, narrowed := true }
def FnSortPlacesUptoSaid : Prop := fnSortPlacesUptoRow.holds Try.pinned (OpenSpec.upto fnSortPlacesSpec)

/-- 'laws.FnIsSortedInts', WHERE WHAT IT READS IS OF BULK AT MOST 1048576: true; the input reads as it did. -/
def fnIsSortedIntsUptoRow : OpenClaim := { program := "ytnondbhmoflpjaa", sum := "053a4d9d402949d23a728bf66f58b7253845d013059d1f6026e1db28230191e7", func := "loop.example/lib-g01184/laws.FnIsSortedInts", spec := "fnIsSortedInts", recurses := true, apart := false, narrowed := true }
def FnIsSortedIntsUptoSaid : Prop := fnIsSortedIntsUptoRow.holds Try.pinned (OpenSpec.upto fnIsSortedIntsSpec)

/-- 'laws.FnCompactOfSorted', WHERE WHAT IT READS IS OF BULK AT MOST 1048576: true; the input reads as it did. -/
def fnCompactOfSortedUptoRow : OpenClaim := { program := "ytnondbhmoflpjaa", sum := "053a4d9d402949d23a728bf66f58b7253845d013059d1f6026e1db28230191e7", func := "loop.example/lib-g01184/laws.FnCompactOfSorted", spec := "fnCompactOfSorted", recurses := true, apart := false, narrowed := true }
def FnCompactOfSortedUptoSaid : Prop := fnCompactOfSortedUptoRow.holds Try.pinned (OpenSpec.upto fnCompactOfSortedSpec)

/-- 'laws.FnSortOfMixed', WHERE WHAT IT READS IS OF BULK AT MOST 1048576: true; the input reads as it did. -/
def fnSortOfMixedUptoRow : OpenClaim := { program := "ytnondbhmoflpjaa", sum := "053a4d9d402949d23a728bf66f58b7253845d013059d1f6026e1db28230191e7", func := "loop.example/lib-g01184/laws.FnSortOfMixed", spec := "fnSortOfMixed", recurses := true, apart := false, narrowed := true }
def FnSortOfMixedUptoSaid : Prop := fnSortOfMixedUptoRow.holds Try.pinned (OpenSpec.upto fnSortOfMixedSpec)

/-- 'laws.FnMinIsFirst', WHERE WHAT IT READS IS OF BULK AT MOST 1048576: true; the input reads as it did. -/
def fnMinIsFirstUptoRow : OpenClaim := { program := "ytnondbhmoflpjaa", sum := "053a4d9d402949d23a728bf66f58b7253845d013059d1f6026e1db28230191e7", func := "loop.example/lib-g01184/laws.FnMinIsFirst", spec := "fnMinIsFirst", unfollowed := true, recurses := true, apart := false, narrowed := true }
def FnMinIsFirstUptoSaid : Prop := fnMinIsFirstUptoRow.holds Try.pinned (OpenSpec.upto fnMinIsFirstSpec)

/-- 'laws.FnInsertWhereFound', WHERE WHAT IT READS IS OF BULK AT MOST 1048576: true; the input reads as it did. -/
def fnInsertWhereFoundUptoRow : OpenClaim := { program := "ytnondbhmoflpjaa", sum := "053a4d9d402949d23a728bf66f58b7253845d013059d1f6026e1db28230191e7", func := "loop.example/lib-g01184/laws.FnInsertWhereFound", spec := "fnInsertWhereFound", inPlace := ["slices.overlaps[int]"], unfollowed := true, recurses := true, apart := false, narrowed := true }
def FnInsertWhereFoundUptoSaid : Prop := fnInsertWhereFoundUptoRow.holds Try.pinned (OpenSpec.upto fnInsertWhereFoundSpec)

end Rows
end Go.Proofs.Ytnondbhmoflpjaa
