/- Closed facts on the program's types. -/
import Derived.Test.YtfapllhjccpfpaaPlain
import Derived.Test.YtfapllhjccpfpaaProg
namespace Go.Proofs.Ytfapllhjccpfpaa
open Go.RowKit

theorem infoInt : (Try.prog.info? 3).map (fun i => (i.zero, i.size, i.bytes)) = some (some (.int .i64 0), 1, 8) := by kernel_rfl

end Go.Proofs.Ytfapllhjccpfpaa
