/- The program is laid out as the model wants it: one closed fact, by itself (it takes the kernel much memory). -/
import Derived.Test.YtoojgjhfmmohbaaGreatProg
import Derived.WalkKit
import Derived.OpenShut
import Derived.ChangeOld
namespace Go.Proofs.YtoojgjhfmmohbaaGreat
open Go.RowKit
theorem laidOut : laidOutB Tryz.prog = true := by kernel_rfl
end Go.Proofs.YtoojgjhfmmohbaaGreat
