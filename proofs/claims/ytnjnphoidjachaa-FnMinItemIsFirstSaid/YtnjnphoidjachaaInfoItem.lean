/- A closed fact on the type of items. -/
import Derived.Test.YtnjnphoidjachaaInfo
namespace Go.Proofs.Ytnjnphoidjachaa
theorem infoItem : (Try.prog.info? 41).map (fun i => (i.zero, i.size, i.bytes)) = some (some (.agg #[.int .i64 0, .int .i64 0]), 2, 16) := by kernel_rfl
end Go.Proofs.Ytnjnphoidjachaa
