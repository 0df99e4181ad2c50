/-
  No cell of these rows narrows 'for every input' (looked for: loops, veiled, ifaces, maps, wideKeys, modest, calm, conditions, laid).
  DERIVED. THE GIVEN ROWS OF THIS SEAT. 12 by the template 'for every input the law returns true; each argument reads behind the call as it read before'; 0 by the template 'total and deterministic' (their statements: YthioaialkilbdaaTotals.lean).
  GIVEN WITH THE SEED: the statements are not yours to turn. If you find one false, say at which input.
  Laid BY PROGRAM, IN A SANDBOX (cutbox-rows.mjs): the forced cells as the released guide's own fill.sh prints them over the translation ceecf2dbcc6356b5… (all of the seat's roots in one cut). By AI agents, Wed Nov 11 2026. No macro, syntax, notation, axiom, sorry.
-/
import Derived.Test.YthioaialkilbdaaChecked
import GoSem.Claim
import GoSem.ClaimJoined
import GoSem.ClaimMapViews
import Derived.JoinedTies
import Derived.KernelRfl
namespace Go.Proofs.Ythioaialkilbdaa
/- THE CELL 'sum', in the pinned program and in every row, IS THE sha256 OF THE DUMP (.gsa) THAT YthioaialkilbdaaProg.lean LOADS. Nothing in Lean hashes anything: it is a label: what it is worth is what the hold of that sum in a sandbox is worth. -/
noncomputable def Try.pinned : Pinned := { name := "ythioaialkilbdaa", sum := "ceecf2dbcc6356b57ad58991f7bec5e31ba9dec550598e30d196e39186b621b2", checked := Try.checked }
namespace Rows
def none {H : Type} : Left H := { results := [], args := [] }

/-- 'laws.FnExactIsSortedInts': WHATEVER THE INPUT: true; the input reads as it did. -/
def fnExactIsSortedIntsSpec : ChangeSpec := { name := "fnExactIsSortedInts", fn := fun _ => fun
  | [d] => { results := [.lit (.bool true)], args := [d] }
  | _ => none }
def fnExactIsSortedIntsRow : OpenClaim := { program := "ythioaialkilbdaa", sum := "ceecf2dbcc6356b57ad58991f7bec5e31ba9dec550598e30d196e39186b621b2", func := "loop.example/lib-g01184/laws.FnExactIsSortedInts", spec := "fnExactIsSortedInts", apart := false }
def FnExactIsSortedIntsSaid : Prop := fnExactIsSortedIntsRow.holds Try.pinned (OpenSpec.ofChange fnExactIsSortedIntsSpec)

/-- ITS FALSE NEIGHBOUR: 'it returns false'. Refute it at one input. -/
def fnExactIsSortedIntsWrong : ChangeSpec := { name := "fnExactIsSortedInts", fn := fun _ => fun
  | [d] => { results := [.lit (.bool false)], args := [d] }
  | _ => none }
def FnExactIsSortedIntsWrongFalsely : Prop := fnExactIsSortedIntsRow.holds Try.pinned (OpenSpec.ofChange fnExactIsSortedIntsWrong)

/-- 'laws.FnExactIsSortedStrings': WHATEVER THE INPUT: true; the input reads as it did. -/
def fnExactIsSortedStringsSpec : ChangeSpec := { name := "fnExactIsSortedStrings", fn := fun _ => fun
  | [d] => { results := [.lit (.bool true)], args := [d] }
  | _ => none }
def fnExactIsSortedStringsRow : OpenClaim := { program := "ythioaialkilbdaa", sum := "ceecf2dbcc6356b57ad58991f7bec5e31ba9dec550598e30d196e39186b621b2", func := "loop.example/lib-g01184/laws.FnExactIsSortedStrings", spec := "fnExactIsSortedStrings", apart := false }
def FnExactIsSortedStringsSaid : Prop := fnExactIsSortedStringsRow.holds Try.pinned (OpenSpec.ofChange fnExactIsSortedStringsSpec)

/-- ITS FALSE NEIGHBOUR: 'it returns false'. Refute it at one input. -/
def fnExactIsSortedStringsWrong : ChangeSpec := { name := "fnExactIsSortedStrings", fn := fun _ => fun
  | [d] => { results := [.lit (.bool false)], args := [d] }
  | _ => none }
def FnExactIsSortedStringsWrongFalsely : Prop := fnExactIsSortedStringsRow.holds Try.pinned (OpenSpec.ofChange fnExactIsSortedStringsWrong)

/-- 'laws.FnExactMaxInts': WHATEVER THE INPUT: true; the input reads as it did. -/
def fnExactMaxIntsSpec : ChangeSpec := { name := "fnExactMaxInts", fn := fun _ => fun
  | [d] => { results := [.lit (.bool true)], args := [d] }
  | _ => none }
def fnExactMaxIntsRow : OpenClaim := { program := "ythioaialkilbdaa", sum := "ceecf2dbcc6356b57ad58991f7bec5e31ba9dec550598e30d196e39186b621b2", func := "loop.example/lib-g01184/laws.FnExactMaxInts", spec := "fnExactMaxInts", unfollowed := true, recurses := true, apart := false }
def FnExactMaxIntsSaid : Prop := fnExactMaxIntsRow.holds Try.pinned (OpenSpec.ofChange fnExactMaxIntsSpec)

/-- ITS FALSE NEIGHBOUR: 'it returns false'. Refute it at one input. -/
def fnExactMaxIntsWrong : ChangeSpec := { name := "fnExactMaxInts", fn := fun _ => fun
  | [d] => { results := [.lit (.bool false)], args := [d] }
  | _ => none }
def FnExactMaxIntsWrongFalsely : Prop := fnExactMaxIntsRow.holds Try.pinned (OpenSpec.ofChange fnExactMaxIntsWrong)

/-- 'laws.FnExactMaxStrings': WHATEVER THE INPUT: true; the input reads as it did. -/
def fnExactMaxStringsSpec : ChangeSpec := { name := "fnExactMaxStrings", fn := fun _ => fun
  | [d] => { results := [.lit (.bool true)], args := [d] }
  | _ => none }
def fnExactMaxStringsRow : OpenClaim := { program := "ythioaialkilbdaa", sum := "ceecf2dbcc6356b57ad58991f7bec5e31ba9dec550598e30d196e39186b621b2", func := "loop.example/lib-g01184/laws.FnExactMaxStrings", spec := "fnExactMaxStrings", unfollowed := true, recurses := true, apart := false }
def FnExactMaxStringsSaid : Prop := fnExactMaxStringsRow.holds Try.pinned (OpenSpec.ofChange fnExactMaxStringsSpec)

/-- ITS FALSE NEIGHBOUR: 'it returns false'. Refute it at one input. -/
def fnExactMaxStringsWrong : ChangeSpec := { name := "fnExactMaxStrings", fn := fun _ => fun
  | [d] => { results := [.lit (.bool false)], args := [d] }
  | _ => none }
def FnExactMaxStringsWrongFalsely : Prop := fnExactMaxStringsRow.holds Try.pinned (OpenSpec.ofChange fnExactMaxStringsWrong)

/-- 'laws.FnExactMinInts': WHATEVER THE INPUT: true; the input reads as it did. -/
def fnExactMinIntsSpec : ChangeSpec := { name := "fnExactMinInts", fn := fun _ => fun
  | [d] => { results := [.lit (.bool true)], args := [d] }
  | _ => none }
def fnExactMinIntsRow : OpenClaim := { program := "ythioaialkilbdaa", sum := "ceecf2dbcc6356b57ad58991f7bec5e31ba9dec550598e30d196e39186b621b2", func := "loop.example/lib-g01184/laws.FnExactMinInts", spec := "fnExactMinInts", unfollowed := true, recurses := true, apart := false }
def FnExactMinIntsSaid : Prop := fnExactMinIntsRow.holds Try.pinned (OpenSpec.ofChange fnExactMinIntsSpec)

/-- ITS FALSE NEIGHBOUR: 'it returns false'. Refute it at one input. -/
def fnExactMinIntsWrong : ChangeSpec := { name := "fnExactMinInts", fn := fun _ => fun
  | [d] => { results := [.lit (.bool false)], args := [d] }
  | _ => none }
def FnExactMinIntsWrongFalsely : Prop := fnExactMinIntsRow.holds Try.pinned (OpenSpec.ofChange fnExactMinIntsWrong)

/-- 'laws.FnExactMinStrings': WHATEVER THE INPUT: true; the input reads as it did. -/
def fnExactMinStringsSpec : ChangeSpec := { name := "fnExactMinStrings", fn := fun _ => fun
  | [d] => { results := [.lit (.bool true)], args := [d] }
  | _ => none }
def fnExactMinStringsRow : OpenClaim := { program := "ythioaialkilbdaa", sum := "ceecf2dbcc6356b57ad58991f7bec5e31ba9dec550598e30d196e39186b621b2", func := "loop.example/lib-g01184/laws.FnExactMinStrings", spec := "fnExactMinStrings", unfollowed := true, recurses := true, apart := false }
def FnExactMinStringsSaid : Prop := fnExactMinStringsRow.holds Try.pinned (OpenSpec.ofChange fnExactMinStringsSpec)

/-- ITS FALSE NEIGHBOUR: 'it returns false'. Refute it at one input. -/
def fnExactMinStringsWrong : ChangeSpec := { name := "fnExactMinStrings", fn := fun _ => fun
  | [d] => { results := [.lit (.bool false)], args := [d] }
  | _ => none }
def FnExactMinStringsWrongFalsely : Prop := fnExactMinStringsRow.holds Try.pinned (OpenSpec.ofChange fnExactMinStringsWrong)

/-- 'laws.FnBinarySearchSigns': WHATEVER THE INPUT: true; the input reads as it did. -/
def fnBinarySearchSignsSpec : ChangeSpec := { name := "fnBinarySearchSigns", fn := fun _ => fun
  | [d] => { results := [.lit (.bool true)], args := [d] }
  | _ => none }
def fnBinarySearchSignsRow : OpenClaim := { program := "ythioaialkilbdaa", sum := "ceecf2dbcc6356b57ad58991f7bec5e31ba9dec550598e30d196e39186b621b2", func := "loop.example/lib-g01184/laws.FnBinarySearchSigns", spec := "fnBinarySearchSigns", unfollowed := true, recurses := true, apart := false }
def FnBinarySearchSignsSaid : Prop := fnBinarySearchSignsRow.holds Try.pinned (OpenSpec.ofChange fnBinarySearchSignsSpec)

/-- ITS FALSE NEIGHBOUR: 'it returns false'. Refute it at one input. -/
def fnBinarySearchSignsWrong : ChangeSpec := { name := "fnBinarySearchSigns", fn := fun _ => fun
  | [d] => { results := [.lit (.bool false)], args := [d] }
  | _ => none }
def FnBinarySearchSignsWrongFalsely : Prop := fnBinarySearchSignsRow.holds Try.pinned (OpenSpec.ofChange fnBinarySearchSignsWrong)

/-- 'laws.FnExactIsSortedItems': WHATEVER THE INPUT: true; the input reads as it did. -/
def fnExactIsSortedItemsSpec : ChangeSpec := { name := "fnExactIsSortedItems", fn := fun _ => fun
  | [d] => { results := [.lit (.bool true)], args := [d] }
  | _ => none }
def fnExactIsSortedItemsRow : OpenClaim := { program := "ythioaialkilbdaa", sum := "ceecf2dbcc6356b57ad58991f7bec5e31ba9dec550598e30d196e39186b621b2", func := "loop.example/lib-g01184/laws.FnExactIsSortedItems", spec := "fnExactIsSortedItems", unfollowed := true, recurses := true, apart := false }
def FnExactIsSortedItemsSaid : Prop := fnExactIsSortedItemsRow.holds Try.pinned (OpenSpec.ofChange fnExactIsSortedItemsSpec)

/-- ITS FALSE NEIGHBOUR: 'it returns false'. Refute it at one input. -/
def fnExactIsSortedItemsWrong : ChangeSpec := { name := "fnExactIsSortedItems", fn := fun _ => fun
  | [d] => { results := [.lit (.bool false)], args := [d] }
  | _ => none }
def FnExactIsSortedItemsWrongFalsely : Prop := fnExactIsSortedItemsRow.holds Try.pinned (OpenSpec.ofChange fnExactIsSortedItemsWrong)

/-- 'laws.FnBinarySearchItems': WHATEVER THE INPUT: true; the input reads as it did. -/
def fnBinarySearchItemsSpec : ChangeSpec := { name := "fnBinarySearchItems", fn := fun _ => fun
  | [d1, d2] => { results := [.lit (.bool true)], args := [d1, d2] }
  | _ => none }
def fnBinarySearchItemsRow : OpenClaim := { program := "ythioaialkilbdaa", sum := "ceecf2dbcc6356b57ad58991f7bec5e31ba9dec550598e30d196e39186b621b2", func := "loop.example/lib-g01184/laws.FnBinarySearchItems", spec := "fnBinarySearchItems", unfollowed := true, recurses := true, apart := false }
def FnBinarySearchItemsSaid : Prop := fnBinarySearchItemsRow.holds Try.pinned (OpenSpec.ofChange fnBinarySearchItemsSpec)

/-- ITS FALSE NEIGHBOUR: 'it returns false'. Refute it at one input. -/
def fnBinarySearchItemsWrong : ChangeSpec := { name := "fnBinarySearchItems", fn := fun _ => fun
  | [d1, d2] => { results := [.lit (.bool false)], args := [d1, d2] }
  | _ => none }
def FnBinarySearchItemsWrongFalsely : Prop := fnBinarySearchItemsRow.holds Try.pinned (OpenSpec.ofChange fnBinarySearchItemsWrong)

/-- 'laws.FnBinarySearchInts': WHATEVER THE INPUT: true; the input reads as it did. -/
def fnBinarySearchIntsSpec : ChangeSpec := { name := "fnBinarySearchInts", fn := fun _ => fun
  | [d1, d2] => { results := [.lit (.bool true)], args := [d1, d2] }
  | _ => none }
def fnBinarySearchIntsRow : OpenClaim := { program := "ythioaialkilbdaa", sum := "ceecf2dbcc6356b57ad58991f7bec5e31ba9dec550598e30d196e39186b621b2", func := "loop.example/lib-g01184/laws.FnBinarySearchInts", spec := "fnBinarySearchInts", apart := false }
def FnBinarySearchIntsSaid : Prop := fnBinarySearchIntsRow.holds Try.pinned (OpenSpec.ofChange fnBinarySearchIntsSpec)

/-- ITS FALSE NEIGHBOUR: 'it returns false'. Refute it at one input. -/
def fnBinarySearchIntsWrong : ChangeSpec := { name := "fnBinarySearchInts", fn := fun _ => fun
  | [d1, d2] => { results := [.lit (.bool false)], args := [d1, d2] }
  | _ => none }
def FnBinarySearchIntsWrongFalsely : Prop := fnBinarySearchIntsRow.holds Try.pinned (OpenSpec.ofChange fnBinarySearchIntsWrong)

/-- 'laws.FnBinarySearchStrings': WHATEVER THE INPUT: true; the input reads as it did. -/
def fnBinarySearchStringsSpec : ChangeSpec := { name := "fnBinarySearchStrings", fn := fun _ => fun
  | [d1, d2] => { results := [.lit (.bool true)], args := [d1, d2] }
  | _ => none }
def fnBinarySearchStringsRow : OpenClaim := { program := "ythioaialkilbdaa", sum := "ceecf2dbcc6356b57ad58991f7bec5e31ba9dec550598e30d196e39186b621b2", func := "loop.example/lib-g01184/laws.FnBinarySearchStrings", spec := "fnBinarySearchStrings", apart := false }
def FnBinarySearchStringsSaid : Prop := fnBinarySearchStringsRow.holds Try.pinned (OpenSpec.ofChange fnBinarySearchStringsSpec)

/-- ITS FALSE NEIGHBOUR: 'it returns false'. Refute it at one input. -/
def fnBinarySearchStringsWrong : ChangeSpec := { name := "fnBinarySearchStrings", fn := fun _ => fun
  | [d1, d2] => { results := [.lit (.bool false)], args := [d1, d2] }
  | _ => none }
def FnBinarySearchStringsWrongFalsely : Prop := fnBinarySearchStringsRow.holds Try.pinned (OpenSpec.ofChange fnBinarySearchStringsWrong)

/-- 'laws.FnSearchOfAny': WHATEVER THE INPUT: true; the input reads as it did. -/
def fnSearchOfAnySpec : ChangeSpec := { name := "fnSearchOfAny", fn := fun _ => fun
  | [d1, d2] => { results := [.lit (.bool true)], args := [d1, d2] }
  | _ => none }
def fnSearchOfAnyRow : OpenClaim := { program := "ythioaialkilbdaa", sum := "ceecf2dbcc6356b57ad58991f7bec5e31ba9dec550598e30d196e39186b621b2", func := "loop.example/lib-g01184/laws.FnSearchOfAny", spec := "fnSearchOfAny", apart := false }
def FnSearchOfAnySaid : Prop := fnSearchOfAnyRow.holds Try.pinned (OpenSpec.ofChange fnSearchOfAnySpec)

/-- ITS FALSE NEIGHBOUR: 'it returns false'. Refute it at one input. -/
def fnSearchOfAnyWrong : ChangeSpec := { name := "fnSearchOfAny", fn := fun _ => fun
  | [d1, d2] => { results := [.lit (.bool false)], args := [d1, d2] }
  | _ => none }
def FnSearchOfAnyWrongFalsely : Prop := fnSearchOfAnyRow.holds Try.pinned (OpenSpec.ofChange fnSearchOfAnyWrong)

/- THE SECOND FORM. 'bulk': how many values and letters a reading holds, each counted each time it is reached (what is shared counts as often as it is met; a slice's spare places count too). A statement '..UptoSaid' is the law's where the arguments, and the package variables that the reading takes, are together of bulk at most 1048576: NARROWER than '..Said'. Prove '..Said' where nothing that the law and all that it calls make is longer than what came in: it says more and counts as full. Else prove '..UptoSaid'. A law counts once. -/
mutual
def uptoBulk {H : Type} : DataW H → Nat
  | .lit (.string bytes) => bytes.length + 1
  | .lit _ => 1
  | .nil => 1
  | .ptr d => uptoBulk d + 1
  | .slice elems spare => uptoBulkAll elems + uptoBulkAll spare + 1
  | .agg parts => uptoBulkAll parts + 1
  | .iface _ d => uptoBulk d + 1
  | .map entries => uptoBulkEntries entries + 1
  | .held _ => 1
def uptoBulkAll {H : Type} : List (DataW H) → Nat
  | [] => 0
  | d :: r => uptoBulk d + uptoBulkAll r
def uptoBulkEntries {H : Type} : List (Lit × DataW H) → Nat
  | [] => 0
  | x :: r => uptoBulkEntry x + uptoBulkEntries r
def uptoBulkEntry {H : Type} : Lit × DataW H → Nat
  | (.string bytes, d) => bytes.length + uptoBulk d + 1
  | (_, d) => uptoBulk d + 1
 end
def uptoSmall : (H : Type) → List (DataW H) → Bool := fun _ ds => decide (uptoBulkAll ds ≤ 1048576)
def OpenSpec.upto (s : _root_.Go.ChangeSpec) : _root_.Go.OpenSpec := { _root_.Go.OpenSpec.ofChange s with cond := some uptoSmall }

/-- 'laws.FnExactIsSortedInts', WHERE WHAT IT READS IS OF BULK AT MOST 1048576: true; the input reads as it did. -/
def fnExactIsSortedIntsUptoRow : OpenClaim := { program := "ythioaialkilbdaa", sum := "ceecf2dbcc6356b57ad58991f7bec5e31ba9dec550598e30d196e39186b621b2", func := "loop.example/lib-g01184/laws.FnExactIsSortedInts", spec := "fnExactIsSortedInts", apart := false, narrowed := true }
def FnExactIsSortedIntsUptoSaid : Prop := fnExactIsSortedIntsUptoRow.holds Try.pinned (OpenSpec.upto fnExactIsSortedIntsSpec)

/-- 'laws.FnExactIsSortedStrings', WHERE WHAT IT READS IS OF BULK AT MOST 1048576: true; the input reads as it did. -/
def fnExactIsSortedStringsUptoRow : OpenClaim := { program := "ythioaialkilbdaa", sum := "ceecf2dbcc6356b57ad58991f7bec5e31ba9dec550598e30d196e39186b621b2", func := "loop.example/lib-g01184/laws.FnExactIsSortedStrings", spec := "fnExactIsSortedStrings", apart := false, narrowed := true }
def FnExactIsSortedStringsUptoSaid : Prop := fnExactIsSortedStringsUptoRow.holds Try.pinned (OpenSpec.upto fnExactIsSortedStringsSpec)

/-- 'laws.FnExactMaxInts', WHERE WHAT IT READS IS OF BULK AT MOST 1048576: true; the input reads as it did. -/
def fnExactMaxIntsUptoRow : OpenClaim := { program := "ythioaialkilbdaa", sum := "ceecf2dbcc6356b57ad58991f7bec5e31ba9dec550598e30d196e39186b621b2", func := "loop.example/lib-g01184/laws.FnExactMaxInts", spec := "fnExactMaxInts", unfollowed := true, recurses := true, apart := false, narrowed := true }
def FnExactMaxIntsUptoSaid : Prop := fnExactMaxIntsUptoRow.holds Try.pinned (OpenSpec.upto fnExactMaxIntsSpec)

/-- 'laws.FnExactMaxStrings', WHERE WHAT IT READS IS OF BULK AT MOST 1048576: true; the input reads as it did. -/
def fnExactMaxStringsUptoRow : OpenClaim := { program := "ythioaialkilbdaa", sum := "ceecf2dbcc6356b57ad58991f7bec5e31ba9dec550598e30d196e39186b621b2", func := "loop.example/lib-g01184/laws.FnExactMaxStrings", spec := "fnExactMaxStrings", unfollowed := true, recurses := true, apart := false, narrowed := true }
def FnExactMaxStringsUptoSaid : Prop := fnExactMaxStringsUptoRow.holds Try.pinned (OpenSpec.upto fnExactMaxStringsSpec)

/-- 'laws.FnExactMinInts', WHERE WHAT IT READS IS OF BULK AT MOST 1048576: true; the input reads as it did. -/
def fnExactMinIntsUptoRow : OpenClaim := { program := "ythioaialkilbdaa", sum := "ceecf2dbcc6356b57ad58991f7bec5e31ba9dec550598e30d196e39186b621b2", func := "loop.example/lib-g01184/laws.FnExactMinInts", spec := "fnExactMinInts", unfollowed := true, recurses := true, apart := false, narrowed := true }
def FnExactMinIntsUptoSaid : Prop := fnExactMinIntsUptoRow.holds Try.pinned (OpenSpec.upto fnExactMinIntsSpec)

/-- 'laws.FnExactMinStrings', WHERE WHAT IT READS IS OF BULK AT MOST 1048576: true; the input reads as it did. -/
def fnExactMinStringsUptoRow : OpenClaim := { program := "ythioaialkilbdaa", sum := "ceecf2dbcc6356b57ad58991f7bec5e31ba9dec550598e30d196e39186b621b2", func := "loop.example/lib-g01184/laws.FnExactMinStrings", spec := "fnExactMinStrings", unfollowed := true, recurses := true, apart := false, narrowed := true }
def FnExactMinStringsUptoSaid : Prop := fnExactMinStringsUptoRow.holds Try.pinned (OpenSpec.upto fnExactMinStringsSpec)

/-- 'laws.FnBinarySearchSigns', WHERE WHAT IT READS IS OF BULK AT MOST 1048576: true; the input reads as it did. -/
def fnBinarySearchSignsUptoRow : OpenClaim := { program := "ythioaialkilbdaa", sum := "ceecf2dbcc6356b57ad58991f7bec5e31ba9dec550598e30d196e39186b621b2", func := "loop.example/lib-g01184/laws.FnBinarySearchSigns", spec := "fnBinarySearchSigns", unfollowed := true, recurses := true, apart := false, narrowed := true }
def FnBinarySearchSignsUptoSaid : Prop := fnBinarySearchSignsUptoRow.holds Try.pinned (OpenSpec.upto fnBinarySearchSignsSpec)

/-- 'laws.FnExactIsSortedItems', WHERE WHAT IT READS IS OF BULK AT MOST 1048576: true; the input reads as it did. -/
def fnExactIsSortedItemsUptoRow : OpenClaim := { program := "ythioaialkilbdaa", sum := "ceecf2dbcc6356b57ad58991f7bec5e31ba9dec550598e30d196e39186b621b2", func := "loop.example/lib-g01184/laws.FnExactIsSortedItems", spec := "fnExactIsSortedItems", unfollowed := true, recurses := true, apart := false, narrowed := true }
def FnExactIsSortedItemsUptoSaid : Prop := fnExactIsSortedItemsUptoRow.holds Try.pinned (OpenSpec.upto fnExactIsSortedItemsSpec)

/-- 'laws.FnBinarySearchItems', WHERE WHAT IT READS IS OF BULK AT MOST 1048576: true; the input reads as it did. -/
def fnBinarySearchItemsUptoRow : OpenClaim := { program := "ythioaialkilbdaa", sum := "ceecf2dbcc6356b57ad58991f7bec5e31ba9dec550598e30d196e39186b621b2", func := "loop.example/lib-g01184/laws.FnBinarySearchItems", spec := "fnBinarySearchItems", unfollowed := true, recurses := true, apart := false, narrowed := true }
def FnBinarySearchItemsUptoSaid : Prop := fnBinarySearchItemsUptoRow.holds Try.pinned (OpenSpec.upto fnBinarySearchItemsSpec)

/-- 'laws.FnBinarySearchInts', WHERE WHAT IT READS IS OF BULK AT MOST 1048576: true; the input reads as it did. -/
def fnBinarySearchIntsUptoRow : OpenClaim := { program := "ythioaialkilbdaa", sum := "ceecf2dbcc6356b57ad58991f7bec5e31ba9dec550598e30d196e39186b621b2", func := "loop.example/lib-g01184/laws.FnBinarySearchInts", spec := "fnBinarySearchInts", apart := false, narrowed := true }
def FnBinarySearchIntsUptoSaid : Prop := fnBinarySearchIntsUptoRow.holds Try.pinned (OpenSpec.upto fnBinarySearchIntsSpec)

/-- 'laws.FnBinarySearchStrings', WHERE WHAT IT READS IS OF BULK AT MOST 1048576: true; the input reads as it did. -/
def fnBinarySearchStringsUptoRow : OpenClaim := { program := "ythioaialkilbdaa", sum := "ceecf2dbcc6356b57ad58991f7bec5e31ba9dec550598e30d196e39186b621b2", func := "loop.example/lib-g01184/laws.FnBinarySearchStrings", spec := "fnBinarySearchStrings", apart := false, narrowed := true }
def FnBinarySearchStringsUptoSaid : Prop := fnBinarySearchStringsUptoRow.holds Try.pinned (OpenSpec.upto fnBinarySearchStringsSpec)

/-- 'laws.FnSearchOfAny', WHERE WHAT IT READS IS OF BULK AT MOST 1048576: true; the input reads as it did. -/
def fnSearchOfAnyUptoRow : OpenClaim := { program := "ythioaialkilbdaa", sum := "ceecf2dbcc6356b57ad58991f7bec5e31ba9dec550598e30d196e39186b621b2", func := "loop.example/lib-g01184/laws.FnSearchOfAny", spec := "fnSearchOfAny", apart := false, narrowed := true }
def FnSearchOfAnyUptoSaid : Prop := fnSearchOfAnyUptoRow.holds Try.pinned (OpenSpec.upto fnSearchOfAnySpec)

end Rows
end Go.Proofs.Ythioaialkilbdaa
