/- Closed facts on the program's types. -/
import Derived.Test.YtadkichkfelbbaaPlain
import Derived.Test.YtadkichkfelbbaaProg
namespace Go.Proofs.Ytadkichkfelbbaa
open Go.RowKit

theorem infoInt : (Try.prog.info? 3).map (fun i => (i.zero, i.size, i.bytes)) = some (some (.int .i64 0), 1, 8) := by kernel_rfl

theorem infoStr : (Try.prog.info? 9).map (fun i => (i.zero, i.size, i.bytes)) = some (some (.string ByteArray.empty), 1, 16) := by kernel_rfl
end Go.Proofs.Ytadkichkfelbbaa
