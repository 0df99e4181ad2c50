/-
  No cell of these rows narrows 'for every input' (looked for: loops, veiled, ifaces, maps, wideKeys, modest, calm, conditions, laid).
  DERIVED. THE GIVEN ROWS OF THIS SEAT. 9 by the template 'for every input the law returns true; each argument reads behind the call as it read before'; 0 by the template 'total and deterministic' (their statements: YtnjnphoidjachaaTotals.lean).
  GIVEN WITH THE SEED: the statements are not yours to turn. If you find one false, say at which input.
  Laid BY PROGRAM, IN A SANDBOX (cutbox-rows.mjs): the forced cells as the released guide's own fill.sh prints them over the translation 2e303c1922a0f7d2… (all of the seat's roots in one cut). By AI agents, Wed Nov 11 2026. No macro, syntax, notation, axiom, sorry.
-/
import Derived.Test.YtnjnphoidjachaaChecked
import GoSem.Claim
import GoSem.ClaimJoined
import GoSem.ClaimMapViews
import Derived.JoinedTies
import Derived.KernelRfl
namespace Go.Proofs.Ytnjnphoidjachaa
/- THE CELL 'sum', in the pinned program and in every row, IS THE sha256 OF THE DUMP (.gsa) THAT YtnjnphoidjachaaProg.lean LOADS. Nothing in Lean hashes anything: it is a label: what it is worth is what the hold of that sum in a sandbox is worth. -/
noncomputable def Try.pinned : Pinned := { name := "ytnjnphoidjachaa", sum := "2e303c1922a0f7d2e33c9171e1d3d4a0f21e4463bf4ff5a4ae45cefadd1d95b6", checked := Try.checked }
namespace Rows
def none {H : Type} : Left H := { results := [], args := [] }

/-- 'laws.FnSortItemsKeys': WHATEVER THE INPUT: true; the input reads as it did. -/
def fnSortItemsKeysSpec : ChangeSpec := { name := "fnSortItemsKeys", fn := fun _ => fun
  | [d] => { results := [.lit (.bool true)], args := [d] }
  | _ => none }
def fnSortItemsKeysRow : OpenClaim := { program := "ytnjnphoidjachaa", sum := "2e303c1922a0f7d2e33c9171e1d3d4a0f21e4463bf4ff5a4ae45cefadd1d95b6", func := "loop.example/lib-g01184/laws.FnSortItemsKeys", spec := "fnSortItemsKeys", unfollowed := true, recurses := true, apart := false }
def FnSortItemsKeysSaid : Prop := fnSortItemsKeysRow.holds Try.pinned (OpenSpec.ofChange fnSortItemsKeysSpec)

/-- ITS FALSE NEIGHBOUR: 'it returns false'. Refute it at one input. -/
def fnSortItemsKeysWrong : ChangeSpec := { name := "fnSortItemsKeys", fn := fun _ => fun
  | [d] => { results := [.lit (.bool false)], args := [d] }
  | _ => none }
def FnSortItemsKeysWrongFalsely : Prop := fnSortItemsKeysRow.holds Try.pinned (OpenSpec.ofChange fnSortItemsKeysWrong)

/-- 'laws.FnSortItemsSorts': WHATEVER THE INPUT: true; the input reads as it did. -/
def fnSortItemsSortsSpec : ChangeSpec := { name := "fnSortItemsSorts", fn := fun _ => fun
  | [d] => { results := [.lit (.bool true)], args := [d] }
  | _ => none }
def fnSortItemsSortsRow : OpenClaim := { program := "ytnjnphoidjachaa", sum := "2e303c1922a0f7d2e33c9171e1d3d4a0f21e4463bf4ff5a4ae45cefadd1d95b6", func := "loop.example/lib-g01184/laws.FnSortItemsSorts", spec := "fnSortItemsSorts", unfollowed := true, recurses := true, apart := false }
def FnSortItemsSortsSaid : Prop := fnSortItemsSortsRow.holds Try.pinned (OpenSpec.ofChange fnSortItemsSortsSpec)

/-- ITS FALSE NEIGHBOUR: 'it returns false'. Refute it at one input. -/
def fnSortItemsSortsWrong : ChangeSpec := { name := "fnSortItemsSorts", fn := fun _ => fun
  | [d] => { results := [.lit (.bool false)], args := [d] }
  | _ => none }
def FnSortItemsSortsWrongFalsely : Prop := fnSortItemsSortsRow.holds Try.pinned (OpenSpec.ofChange fnSortItemsSortsWrong)

/-- 'laws.FnExactSortWhole': WHATEVER THE INPUT: true; the input reads as it did. -/
def fnExactSortWholeSpec : ChangeSpec := { name := "fnExactSortWhole", fn := fun _ => fun
  | [d] => { results := [.lit (.bool true)], args := [d] }
  | _ => none }
def fnExactSortWholeRow : OpenClaim := { program := "ytnjnphoidjachaa", sum := "2e303c1922a0f7d2e33c9171e1d3d4a0f21e4463bf4ff5a4ae45cefadd1d95b6", func := "loop.example/lib-g01184/laws.FnExactSortWhole", spec := "fnExactSortWhole", unfollowed := true, recurses := true, apart := false }
def FnExactSortWholeSaid : Prop := fnExactSortWholeRow.holds Try.pinned (OpenSpec.ofChange fnExactSortWholeSpec)

/-- ITS FALSE NEIGHBOUR: 'it returns false'. Refute it at one input. -/
def fnExactSortWholeWrong : ChangeSpec := { name := "fnExactSortWhole", fn := fun _ => fun
  | [d] => { results := [.lit (.bool false)], args := [d] }
  | _ => none }
def FnExactSortWholeWrongFalsely : Prop := fnExactSortWholeRow.holds Try.pinned (OpenSpec.ofChange fnExactSortWholeWrong)

/-- 'laws.FnStableIsWhole': WHATEVER THE INPUT: true; the input reads as it did. -/
def fnStableIsWholeSpec : ChangeSpec := { name := "fnStableIsWhole", fn := fun _ => fun
  | [d] => { results := [.lit (.bool true)], args := [d] }
  | _ => none }
def fnStableIsWholeRow : OpenClaim := { program := "ytnjnphoidjachaa", sum := "2e303c1922a0f7d2e33c9171e1d3d4a0f21e4463bf4ff5a4ae45cefadd1d95b6", func := "loop.example/lib-g01184/laws.FnStableIsWhole", spec := "fnStableIsWhole", unfollowed := true, recurses := true, apart := false }
def FnStableIsWholeSaid : Prop := fnStableIsWholeRow.holds Try.pinned (OpenSpec.ofChange fnStableIsWholeSpec)

/-- ITS FALSE NEIGHBOUR: 'it returns false'. Refute it at one input. -/
def fnStableIsWholeWrong : ChangeSpec := { name := "fnStableIsWhole", fn := fun _ => fun
  | [d] => { results := [.lit (.bool false)], args := [d] }
  | _ => none }
def FnStableIsWholeWrongFalsely : Prop := fnStableIsWholeRow.holds Try.pinned (OpenSpec.ofChange fnStableIsWholeWrong)

/-- 'laws.FnStableTwice': WHATEVER THE INPUT: true; the input reads as it did. -/
def fnStableTwiceSpec : ChangeSpec := { name := "fnStableTwice", fn := fun _ => fun
  | [d] => { results := [.lit (.bool true)], args := [d] }
  | _ => none }
def fnStableTwiceRow : OpenClaim := { program := "ytnjnphoidjachaa", sum := "2e303c1922a0f7d2e33c9171e1d3d4a0f21e4463bf4ff5a4ae45cefadd1d95b6", func := "loop.example/lib-g01184/laws.FnStableTwice", spec := "fnStableTwice", unfollowed := true, recurses := true, apart := false }
def FnStableTwiceSaid : Prop := fnStableTwiceRow.holds Try.pinned (OpenSpec.ofChange fnStableTwiceSpec)

/-- ITS FALSE NEIGHBOUR: 'it returns false'. Refute it at one input. -/
def fnStableTwiceWrong : ChangeSpec := { name := "fnStableTwice", fn := fun _ => fun
  | [d] => { results := [.lit (.bool false)], args := [d] }
  | _ => none }
def FnStableTwiceWrongFalsely : Prop := fnStableTwiceRow.holds Try.pinned (OpenSpec.ofChange fnStableTwiceWrong)

/-- 'laws.FnExactStableItems': WHATEVER THE INPUT: true; the input reads as it did. -/
def fnExactStableItemsSpec : ChangeSpec := { name := "fnExactStableItems", fn := fun _ => fun
  | [d] => { results := [.lit (.bool true)], args := [d] }
  | _ => none }
def fnExactStableItemsRow : OpenClaim := { program := "ytnjnphoidjachaa", sum := "2e303c1922a0f7d2e33c9171e1d3d4a0f21e4463bf4ff5a4ae45cefadd1d95b6", func := "loop.example/lib-g01184/laws.FnExactStableItems", spec := "fnExactStableItems", unfollowed := true, recurses := true, apart := false }
def FnExactStableItemsSaid : Prop := fnExactStableItemsRow.holds Try.pinned (OpenSpec.ofChange fnExactStableItemsSpec)

/-- ITS FALSE NEIGHBOUR: 'it returns false'. Refute it at one input. -/
def fnExactStableItemsWrong : ChangeSpec := { name := "fnExactStableItems", fn := fun _ => fun
  | [d] => { results := [.lit (.bool false)], args := [d] }
  | _ => none }
def FnExactStableItemsWrongFalsely : Prop := fnExactStableItemsRow.holds Try.pinned (OpenSpec.ofChange fnExactStableItemsWrong)

/-- 'laws.FnStableKeepsEqual': WHATEVER THE INPUT: true; the input reads as it did. -/
def fnStableKeepsEqualSpec : ChangeSpec := { name := "fnStableKeepsEqual", fn := fun _ => fun
  | [d] => { results := [.lit (.bool true)], args := [d] }
  | _ => none }
def fnStableKeepsEqualRow : OpenClaim := { program := "ytnjnphoidjachaa", sum := "2e303c1922a0f7d2e33c9171e1d3d4a0f21e4463bf4ff5a4ae45cefadd1d95b6", func := "loop.example/lib-g01184/laws.FnStableKeepsEqual", spec := "fnStableKeepsEqual", unfollowed := true, recurses := true, apart := false }
def FnStableKeepsEqualSaid : Prop := fnStableKeepsEqualRow.holds Try.pinned (OpenSpec.ofChange fnStableKeepsEqualSpec)

/-- ITS FALSE NEIGHBOUR: 'it returns false'. Refute it at one input. -/
def fnStableKeepsEqualWrong : ChangeSpec := { name := "fnStableKeepsEqual", fn := fun _ => fun
  | [d] => { results := [.lit (.bool false)], args := [d] }
  | _ => none }
def FnStableKeepsEqualWrongFalsely : Prop := fnStableKeepsEqualRow.holds Try.pinned (OpenSpec.ofChange fnStableKeepsEqualWrong)

/-- 'laws.FnStableOfSorted': WHATEVER THE INPUT: true; the input reads as it did. -/
def fnStableOfSortedSpec : ChangeSpec := { name := "fnStableOfSorted", fn := fun _ => fun
  | [d] => { results := [.lit (.bool true)], args := [d] }
  | _ => none }
def fnStableOfSortedRow : OpenClaim := { program := "ytnjnphoidjachaa", sum := "2e303c1922a0f7d2e33c9171e1d3d4a0f21e4463bf4ff5a4ae45cefadd1d95b6", func := "loop.example/lib-g01184/laws.FnStableOfSorted", spec := "fnStableOfSorted", unfollowed := true, recurses := true, apart := false }
def FnStableOfSortedSaid : Prop := fnStableOfSortedRow.holds Try.pinned (OpenSpec.ofChange fnStableOfSortedSpec)

/-- ITS FALSE NEIGHBOUR: 'it returns false'. Refute it at one input. -/
def fnStableOfSortedWrong : ChangeSpec := { name := "fnStableOfSorted", fn := fun _ => fun
  | [d] => { results := [.lit (.bool false)], args := [d] }
  | _ => none }
def FnStableOfSortedWrongFalsely : Prop := fnStableOfSortedRow.holds Try.pinned (OpenSpec.ofChange fnStableOfSortedWrong)

/-- 'laws.FnMinItemIsFirst': WHATEVER THE INPUT: true; the input reads as it did. -/
def fnMinItemIsFirstSpec : ChangeSpec := { name := "fnMinItemIsFirst", fn := fun _ => fun
  | [d] => { results := [.lit (.bool true)], args := [d] }
  | _ => none }
def fnMinItemIsFirstRow : OpenClaim := { program := "ytnjnphoidjachaa", sum := "2e303c1922a0f7d2e33c9171e1d3d4a0f21e4463bf4ff5a4ae45cefadd1d95b6", func := "loop.example/lib-g01184/laws.FnMinItemIsFirst", spec := "fnMinItemIsFirst", unfollowed := true, recurses := true, apart := false }
def FnMinItemIsFirstSaid : Prop := fnMinItemIsFirstRow.holds Try.pinned (OpenSpec.ofChange fnMinItemIsFirstSpec)

/-- ITS FALSE NEIGHBOUR: 'it returns false'. Refute it at one input. -/
def fnMinItemIsFirstWrong : ChangeSpec := { name := "fnMinItemIsFirst", fn := fun _ => fun
  | [d] => { results := [.lit (.bool false)], args := [d] }
  | _ => none }
def FnMinItemIsFirstWrongFalsely : Prop := fnMinItemIsFirstRow.holds Try.pinned (OpenSpec.ofChange fnMinItemIsFirstWrong)

/- THE SECOND FORM. 'bulk': how many values and letters a reading holds, each counted each time it is reached (what is shared counts as often as it is met; a slice's spare places count too). A statement '..UptoSaid' is the law's where the arguments, and the package variables that the reading takes, are together of bulk at most 1048576: NARROWER than '..Said'. Prove '..Said' where nothing that the law and all that it calls make is longer than what came in: it says more and counts as full. Else prove '..UptoSaid'. A law counts once. -/
mutual
def uptoBulk {H : Type} : DataW H → Nat
  | .lit (.string bytes) => bytes.length + 1
  | .lit _ => 1
  | .nil => 1
  | .ptr d => uptoBulk d + 1
  | .slice elems spare => uptoBulkAll elems + uptoBulkAll spare + 1
  | .agg parts => uptoBulkAll parts + 1
  | .iface _ d => uptoBulk d + 1
  | .map entries => uptoBulkEntries entries + 1
  | .held _ => 1
def uptoBulkAll {H : Type} : List (DataW H) → Nat
  | [] => 0
  | d :: r => uptoBulk d + uptoBulkAll r
def uptoBulkEntries {H : Type} : List (Lit × DataW H) → Nat
  | [] => 0
  | x :: r => uptoBulkEntry x + uptoBulkEntries r
def uptoBulkEntry {H : Type} : Lit × DataW H → Nat
  | (.string bytes, d) => bytes.length + uptoBulk d + 1
  | (_, d) => uptoBulk d + 1
 end
def uptoSmall : (H : Type) → List (DataW H) → Bool := fun _ ds => decide (uptoBulkAll ds ≤ 1048576)
def OpenSpec.upto (s : _root_.Go.ChangeSpec) : _root_.Go.OpenSpec := { _root_.Go.OpenSpec.ofChange s with cond := some uptoSmall }

/-- 'laws.FnSortItemsKeys', WHERE WHAT IT READS IS OF BULK AT MOST 1048576: true; the input reads as it did. -/
def fnSortItemsKeysUptoRow : OpenClaim := { program := "ytnjnphoidjachaa", sum := "2e303c1922a0f7d2e33c9171e1d3d4a0f21e4463bf4ff5a4ae45cefadd1d95b6", func := "loop.example/lib-g01184/laws.FnSortItemsKeys", spec := "fnSortItemsKeys", unfollowed := true, recurses := true, apart := false, narrowed := true }
def FnSortItemsKeysUptoSaid : Prop := fnSortItemsKeysUptoRow.holds Try.pinned (OpenSpec.upto fnSortItemsKeysSpec)

/-- 'laws.FnSortItemsSorts', WHERE WHAT IT READS IS OF BULK AT MOST 1048576: true; the input reads as it did. -/
def fnSortItemsSortsUptoRow : OpenClaim := { program := "ytnjnphoidjachaa", sum := "2e303c1922a0f7d2e33c9171e1d3d4a0f21e4463bf4ff5a4ae45cefadd1d95b6", func := "loop.example/lib-g01184/laws.FnSortItemsSorts", spec := "fnSortItemsSorts", unfollowed := true, recurses := true, apart := false, narrowed := true }
def FnSortItemsSortsUptoSaid : Prop := fnSortItemsSortsUptoRow.holds Try.pinned (OpenSpec.upto fnSortItemsSortsSpec)

/-- 'laws.FnExactSortWhole', WHERE WHAT IT READS IS OF BULK AT MOST 1048576: true; the input reads as it did. -/
def fnExactSortWholeUptoRow : OpenClaim := { program := "ytnjnphoidjachaa", sum := "2e303c1922a0f7d2e33c9171e1d3d4a0f21e4463bf4ff5a4ae45cefadd1d95b6", func := "loop.example/lib-g01184/laws.FnExactSortWhole", spec := "fnExactSortWhole", unfollowed := true, recurses := true, apart := false, narrowed := true }
def FnExactSortWholeUptoSaid : Prop := fnExactSortWholeUptoRow.holds Try.pinned (OpenSpec.upto fnExactSortWholeSpec)

/-- 'laws.FnStableIsWhole', WHERE WHAT IT READS IS OF BULK AT MOST 1048576: true; the input reads as it did. -/
def fnStableIsWholeUptoRow : OpenClaim := { program := "ytnjnphoidjachaa", sum := "2e303c1922a0f7d2e33c9171e1d3d4a0f21e4463bf4ff5a4ae45cefadd1d95b6", func := "loop.example/lib-g01184/laws.FnStableIsWhole", spec := "fnStableIsWhole", unfollowed := true, recurses := true, apart := false, narrowed := true }
def FnStableIsWholeUptoSaid : Prop := fnStableIsWholeUptoRow.holds Try.pinned (OpenSpec.upto fnStableIsWholeSpec)

/-- 'laws.FnStableTwice', WHERE WHAT IT READS IS OF BULK AT MOST 1048576: true; the input reads as it did. -/
def fnStableTwiceUptoRow : OpenClaim := { program := "ytnjnphoidjachaa", sum := "2e303c1922a0f7d2e33c9171e1d3d4a0f21e4463bf4ff5a4ae45cefadd1d95b6", func := "loop.example/lib-g01184/laws.FnStableTwice", spec := "fnStableTwice", unfollowed := true, recurses := true, apart := false, narrowed := true }
def FnStableTwiceUptoSaid : Prop := fnStableTwiceUptoRow.holds Try.pinned (OpenSpec.upto fnStableTwiceSpec)

/-- 'laws.FnExactStableItems', WHERE WHAT IT READS IS OF BULK AT MOST 1048576: true; the input reads as it did. -/
def fnExactStableItemsUptoRow : OpenClaim := { program := "ytnjnphoidjachaa", sum := "2e303c1922a0f7d2e33c9171e1d3d4a0f21e4463bf4ff5a4ae45cefadd1d95b6", func := "loop.example/lib-g01184/laws.FnExactStableItems", spec := "fnExactStableItems", unfollowed := true, recurses := true, apart := false, narrowed := true }
def FnExactStableItemsUptoSaid : Prop := fnExactStableItemsUptoRow.holds Try.pinned (OpenSpec.upto fnExactStableItemsSpec)

/-- 'laws.FnStableKeepsEqual', WHERE WHAT IT READS IS OF BULK AT MOST 1048576: true; the input reads as it did. -/
def fnStableKeepsEqualUptoRow : OpenClaim := { program := "ytnjnphoidjachaa", sum := "2e303c1922a0f7d2e33c9171e1d3d4a0f21e4463bf4ff5a4ae45cefadd1d95b6", func := "loop.example/lib-g01184/laws.FnStableKeepsEqual", spec := "fnStableKeepsEqual", unfollowed := true, recurses := true, apart := false, narrowed := true }
def FnStableKeepsEqualUptoSaid : Prop := fnStableKeepsEqualUptoRow.holds Try.pinned (OpenSpec.upto fnStableKeepsEqualSpec)

/-- 'laws.FnStableOfSorted', WHERE WHAT IT READS IS OF BULK AT MOST 1048576: true; the input reads as it did. -/
def fnStableOfSortedUptoRow : OpenClaim := { program := "ytnjnphoidjachaa", sum := "2e303c1922a0f7d2e33c9171e1d3d4a0f21e4463bf4ff5a4ae45cefadd1d95b6", func := "loop.example/lib-g01184/laws.FnStableOfSorted", spec := "fnStableOfSorted", unfollowed := true, recurses := true, apart := false, narrowed := true }
def FnStableOfSortedUptoSaid : Prop := fnStableOfSortedUptoRow.holds Try.pinned (OpenSpec.upto fnStableOfSortedSpec)

/-- 'laws.FnMinItemIsFirst', WHERE WHAT IT READS IS OF BULK AT MOST 1048576: true; the input reads as it did. -/
def fnMinItemIsFirstUptoRow : OpenClaim := { program := "ytnjnphoidjachaa", sum := "2e303c1922a0f7d2e33c9171e1d3d4a0f21e4463bf4ff5a4ae45cefadd1d95b6", func := "loop.example/lib-g01184/laws.FnMinItemIsFirst", spec := "fnMinItemIsFirst", unfollowed := true, recurses := true, apart := false, narrowed := true }
def FnMinItemIsFirstUptoSaid : Prop := fnMinItemIsFirstUptoRow.holds Try.pinned (OpenSpec.upto fnMinItemIsFirstSpec)

end Rows
end Go.Proofs.Ytnjnphoidjachaa
