/-
  No cell of these rows narrows 'for every input' (looked for: loops, veiled, ifaces, maps, wideKeys, modest, calm, conditions, laid).
  DERIVED. THE GIVEN ROWS OF THIS SEAT. 5 by the template 'for every input the law returns true; each argument reads behind the call as it read before'; 0 by the template 'total and deterministic' (their statements: YtadkichkfelbbaaTotals.lean).
  GIVEN WITH THE SEED: the statements are not yours to turn. If you find one false, say at which input.
  Laid BY PROGRAM, IN A SANDBOX (cutbox-rows.mjs): the forced cells as the released guide's own fill.sh prints them over the translation 9b627b846ff37070… (all of the seat's roots in one cut). By AI agents, Wed Nov 11 2026. No macro, syntax, notation, axiom, sorry.
-/
import Derived.Test.YtadkichkfelbbaaChecked
import GoSem.Claim
import GoSem.ClaimJoined
import GoSem.ClaimMapViews
import Derived.JoinedTies
import Derived.KernelRfl
namespace Go.Proofs.Ytadkichkfelbbaa
/- THE CELL 'sum', in the pinned program and in every row, IS THE sha256 OF THE DUMP (.gsa) THAT YtadkichkfelbbaaProg.lean LOADS. Nothing in Lean hashes anything: it is a label: what it is worth is what the hold of that sum in a sandbox is worth. -/
noncomputable def Try.pinned : Pinned := { name := "ytadkichkfelbbaa", sum := "9b627b846ff37070f4c22aeccb8cf6d38af0bca1967129659a5754cfb6d7ef69", checked := Try.checked }
namespace Rows
def none {H : Type} : Left H := { results := [], args := [] }

/-- 'laws.FnExactSortStrings': WHATEVER THE INPUT: true; the input reads as it did. -/
def fnExactSortStringsSpec : ChangeSpec := { name := "fnExactSortStrings", fn := fun _ => fun
  | [d] => { results := [.lit (.bool true)], args := [d] }
  | _ => none }
def fnExactSortStringsRow : OpenClaim := { program := "ytadkichkfelbbaa", sum := "9b627b846ff37070f4c22aeccb8cf6d38af0bca1967129659a5754cfb6d7ef69", func := "loop.example/lib-g01184/laws.FnExactSortStrings", spec := "fnExactSortStrings", recurses := true, apart := false }
def FnExactSortStringsSaid : Prop := fnExactSortStringsRow.holds Try.pinned (OpenSpec.ofChange fnExactSortStringsSpec)

/-- ITS FALSE NEIGHBOUR: 'it returns false'. Refute it at one input. -/
def fnExactSortStringsWrong : ChangeSpec := { name := "fnExactSortStrings", fn := fun _ => fun
  | [d] => { results := [.lit (.bool false)], args := [d] }
  | _ => none }
def FnExactSortStringsWrongFalsely : Prop := fnExactSortStringsRow.holds Try.pinned (OpenSpec.ofChange fnExactSortStringsWrong)

/-- 'laws.FnSortStringsSorts': WHATEVER THE INPUT: true; the input reads as it did. -/
def fnSortStringsSortsSpec : ChangeSpec := { name := "fnSortStringsSorts", fn := fun _ => fun
  | [d] => { results := [.lit (.bool true)], args := [d] }
  | _ => none }
def fnSortStringsSortsRow : OpenClaim := { program := "ytadkichkfelbbaa", sum := "9b627b846ff37070f4c22aeccb8cf6d38af0bca1967129659a5754cfb6d7ef69", func := "loop.example/lib-g01184/laws.FnSortStringsSorts", spec := "fnSortStringsSorts", recurses := true, apart := false }
def FnSortStringsSortsSaid : Prop := fnSortStringsSortsRow.holds Try.pinned (OpenSpec.ofChange fnSortStringsSortsSpec)

/-- ITS FALSE NEIGHBOUR: 'it returns false'. Refute it at one input. -/
def fnSortStringsSortsWrong : ChangeSpec := { name := "fnSortStringsSorts", fn := fun _ => fun
  | [d] => { results := [.lit (.bool false)], args := [d] }
  | _ => none }
def FnSortStringsSortsWrongFalsely : Prop := fnSortStringsSortsRow.holds Try.pinned (OpenSpec.ofChange fnSortStringsSortsWrong)

/-- 'laws.FnMinTextIsFirst': WHATEVER THE INPUT: true; the input reads as it did. -/
def fnMinTextIsFirstSpec : ChangeSpec := { name := "fnMinTextIsFirst", fn := fun _ => fun
  | [d] => { results := [.lit (.bool true)], args := [d] }
  | _ => none }
def fnMinTextIsFirstRow : OpenClaim := { program := "ytadkichkfelbbaa", sum := "9b627b846ff37070f4c22aeccb8cf6d38af0bca1967129659a5754cfb6d7ef69", func := "loop.example/lib-g01184/laws.FnMinTextIsFirst", spec := "fnMinTextIsFirst", unfollowed := true, recurses := true, apart := false }
def FnMinTextIsFirstSaid : Prop := fnMinTextIsFirstRow.holds Try.pinned (OpenSpec.ofChange fnMinTextIsFirstSpec)

/-- ITS FALSE NEIGHBOUR: 'it returns false'. Refute it at one input. -/
def fnMinTextIsFirstWrong : ChangeSpec := { name := "fnMinTextIsFirst", fn := fun _ => fun
  | [d] => { results := [.lit (.bool false)], args := [d] }
  | _ => none }
def FnMinTextIsFirstWrongFalsely : Prop := fnMinTextIsFirstRow.holds Try.pinned (OpenSpec.ofChange fnMinTextIsFirstWrong)

/-- 'laws.FnMinOfJoined': WHATEVER THE INPUT: true; the input reads as it did. -/
def fnMinOfJoinedSpec : ChangeSpec := { name := "fnMinOfJoined", fn := fun _ => fun
  | [d1, d2] => { results := [.lit (.bool true)], args := [d1, d2] }
  | _ => none }
def fnMinOfJoinedRow : OpenClaim := { program := "ytadkichkfelbbaa", sum := "9b627b846ff37070f4c22aeccb8cf6d38af0bca1967129659a5754cfb6d7ef69", func := "loop.example/lib-g01184/laws.FnMinOfJoined", spec := "fnMinOfJoined", unfollowed := true, recurses := true, apart := false }
def FnMinOfJoinedSaid : Prop := fnMinOfJoinedRow.holds Try.pinned (OpenSpec.ofChange fnMinOfJoinedSpec)

/-- ITS FALSE NEIGHBOUR: 'it returns false'. Refute it at one input. -/
def fnMinOfJoinedWrong : ChangeSpec := { name := "fnMinOfJoined", fn := fun _ => fun
  | [d1, d2] => { results := [.lit (.bool false)], args := [d1, d2] }
  | _ => none }
def FnMinOfJoinedWrongFalsely : Prop := fnMinOfJoinedRow.holds Try.pinned (OpenSpec.ofChange fnMinOfJoinedWrong)

/-- 'laws.FnSearchIsIndex': WHATEVER THE INPUT: true; the input reads as it did. -/
def fnSearchIsIndexSpec : ChangeSpec := { name := "fnSearchIsIndex", fn := fun _ => fun
  | [d1, d2] => { results := [.lit (.bool true)], args := [d1, d2] }
  | _ => none }
def fnSearchIsIndexRow : OpenClaim := { program := "ytadkichkfelbbaa", sum := "9b627b846ff37070f4c22aeccb8cf6d38af0bca1967129659a5754cfb6d7ef69", func := "loop.example/lib-g01184/laws.FnSearchIsIndex", spec := "fnSearchIsIndex", apart := false }
def FnSearchIsIndexSaid : Prop := fnSearchIsIndexRow.holds Try.pinned (OpenSpec.ofChange fnSearchIsIndexSpec)

/-- ITS FALSE NEIGHBOUR: 'it returns false'. Refute it at one input. -/
def fnSearchIsIndexWrong : ChangeSpec := { name := "fnSearchIsIndex", fn := fun _ => fun
  | [d1, d2] => { results := [.lit (.bool false)], args := [d1, d2] }
  | _ => none }
def FnSearchIsIndexWrongFalsely : Prop := fnSearchIsIndexRow.holds Try.pinned (OpenSpec.ofChange fnSearchIsIndexWrong)

/- THE SECOND FORM. 'bulk': how many values and letters a reading holds, each counted each time it is reached (what is shared counts as often as it is met; a slice's spare places count too). A statement '..UptoSaid' is the law's where the arguments, and the package variables that the reading takes, are together of bulk at most 1048576: NARROWER than '..Said'. Prove '..Said' where nothing that the law and all that it calls make is longer than what came in: it says more and counts as full. Else prove '..UptoSaid'. A law counts once. -/
mutual
def uptoBulk {H : Type} : DataW H → Nat
  | .lit (.string bytes) => bytes.length + 1
  | .lit _ => 1
  | .nil => 1
  | .ptr d => uptoBulk d + 1
  | .slice elems spare => uptoBulkAll elems + uptoBulkAll spare + 1
  | .agg parts => uptoBulkAll parts + 1
  | .iface _ d => uptoBulk d + 1
  | .map entries => uptoBulkEntries entries + 1
  | .held _ => 1
def uptoBulkAll {H : Type} : List (DataW H) → Nat
  | [] => 0
  | d :: r => uptoBulk d + uptoBulkAll r
def uptoBulkEntries {H : Type} : List (Lit × DataW H) → Nat
  | [] => 0
  | x :: r => uptoBulkEntry x + uptoBulkEntries r
def uptoBulkEntry {H : Type} : Lit × DataW H → Nat
  | (.string bytes, d) => bytes.length + uptoBulk d + 1
  | (_, d) => uptoBulk d + 1
 end
def uptoSmall : (H : Type) → List (DataW H) → Bool := fun _ ds => decide (uptoBulkAll ds ≤ 1048576)
def OpenSpec.upto (s : _root_.Go.ChangeSpec) : _root_.Go.OpenSpec := { _root_.Go.OpenSpec.ofChange s with cond := some uptoSmall }

/-- 'laws.FnExactSortStrings', WHERE WHAT IT READS IS OF BULK AT MOST 1048576: true; the input reads as it did. -/
def fnExactSortStringsUptoRow : OpenClaim := { program := "ytadkichkfelbbaa", sum := "9b627b846ff37070f4c22aeccb8cf6d38af0bca1967129659a5754cfb6d7ef69", func := "loop.example/lib-g01184/laws.FnExactSortStrings", spec := "fnExactSortStrings", recurses := true, apart := false, narrowed := true }
def FnExactSortStringsUptoSaid : Prop := fnExactSortStringsUptoRow.holds Try.pinned (OpenSpec.upto fnExactSortStringsSpec)

/-- 'laws.FnSortStringsSorts', WHERE WHAT IT READS IS OF BULK AT MOST 1048576: true; the input reads as it did. -/
def fnSortStringsSortsUptoRow : OpenClaim := { program := "ytadkichkfelbbaa", sum := "9b627b846ff37070f4c22aeccb8cf6d38af0bca1967129659a5754cfb6d7ef69", func := "loop.example/lib-g01184/laws.FnSortStringsSorts", spec := "fnSortStringsSorts", recurses := true, apart := false, narrowed := true }
def FnSortStringsSortsUptoSaid : Prop := fnSortStringsSortsUptoRow.holds Try.pinned (OpenSpec.upto fnSortStringsSortsSpec)

/-- 'laws.FnMinTextIsFirst', WHERE WHAT IT READS IS OF BULK AT MOST 1048576: true; the input reads as it did. -/
def fnMinTextIsFirstUptoRow : OpenClaim := { program := "ytadkichkfelbbaa", sum := "9b627b846ff37070f4c22aeccb8cf6d38af0bca1967129659a5754cfb6d7ef69", func := "loop.example/lib-g01184/laws.FnMinTextIsFirst", spec := "fnMinTextIsFirst", unfollowed := true, recurses := true, apart := false, narrowed := true }
def FnMinTextIsFirstUptoSaid : Prop := fnMinTextIsFirstUptoRow.holds Try.pinned (OpenSpec.upto fnMinTextIsFirstSpec)

/-- 'laws.FnMinOfJoined', WHERE WHAT IT READS IS OF BULK AT MOST 1048576: true; the input reads as it did. -/
def fnMinOfJoinedUptoRow : OpenClaim := { program := "ytadkichkfelbbaa", sum := "9b627b846ff37070f4c22aeccb8cf6d38af0bca1967129659a5754cfb6d7ef69", func := "loop.example/lib-g01184/laws.FnMinOfJoined", spec := "fnMinOfJoined", unfollowed := true, recurses := true, apart := false, narrowed := true }
def FnMinOfJoinedUptoSaid : Prop := fnMinOfJoinedUptoRow.holds Try.pinned (OpenSpec.upto fnMinOfJoinedSpec)

/-- 'laws.FnSearchIsIndex', WHERE WHAT IT READS IS OF BULK AT MOST 1048576: true; the input reads as it did. -/
def fnSearchIsIndexUptoRow : OpenClaim := { program := "ytadkichkfelbbaa", sum := "9b627b846ff37070f4c22aeccb8cf6d38af0bca1967129659a5754cfb6d7ef69", func := "loop.example/lib-g01184/laws.FnSearchIsIndex", spec := "fnSearchIsIndex", apart := false, narrowed := true }
def FnSearchIsIndexUptoSaid : Prop := fnSearchIsIndexUptoRow.holds Try.pinned (OpenSpec.upto fnSearchIsIndexSpec)

end Rows
end Go.Proofs.Ytadkichkfelbbaa
