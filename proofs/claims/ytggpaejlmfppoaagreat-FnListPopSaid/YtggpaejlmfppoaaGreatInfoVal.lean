/- What the table says of impl.Val and int. -/
import Derived.Test.YtggpaejlmfppoaaGreatScalars
namespace Go.Proofs.YtggpaejlmfppoaaGreat
open Go.RowKit Dig
set_option maxRecDepth 100000
theorem info26 : (Tryz.prog.info? 27).map (fun i => (i.zero, i.size, i.bytes)) = some (some (.agg zeroVal.toArray), 6, 88) := by kernel_rfl
theorem info3 : (Tryz.prog.info? 3).map (fun i => (i.zero, i.size, i.bytes)) = some (some (.int .i64 0), 1, 8) := by kernel_rfl
end Go.Proofs.YtggpaejlmfppoaaGreat
