/- Closed facts on the program's types. -/
import Derived.Test.YthioaialkilbdabPlain
import Derived.Test.YthioaialkilbdabProg
namespace Go.Proofs.Ythioaialkilbdab
open Go.RowKit

theorem infoInt : (Try.prog.info? 3).map (fun i => (i.zero, i.size, i.bytes)) = some (some (.int .i64 0), 1, 8) := by kernel_rfl

end Go.Proofs.Ythioaialkilbdab
