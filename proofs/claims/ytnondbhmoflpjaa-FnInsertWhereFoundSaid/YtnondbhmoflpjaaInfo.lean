/- Closed facts on the program's types. -/
import Derived.Test.YtnondbhmoflpjaaPlain
import Derived.Test.YtnondbhmoflpjaaProg
namespace Go.Proofs.Ytnondbhmoflpjaa
open Go.RowKit

theorem infoInt : (Try.prog.info? 3).map (fun i => (i.zero, i.size, i.bytes)) = some (some (.int .i64 0), 1, 8) := by kernel_rfl

end Go.Proofs.Ytnondbhmoflpjaa
