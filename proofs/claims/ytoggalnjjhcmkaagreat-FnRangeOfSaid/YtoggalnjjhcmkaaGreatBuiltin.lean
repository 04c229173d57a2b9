/- starlark.NewBuiltin. -/
import Derived.Test.YtoggalnjjhcmkaaGreatBounds
import Derived.Laws.EntriesVeiled
namespace Go.Proofs.YtoggalnjjhcmkaaGreat
open Go.RowKit Dig
set_option linter.unusedVariables false
set_option linter.unusedSimpArgs false
set_option maxRecDepth 100000

theorem newBuiltin_any (s : ByteArray) (k : Nat) (w : World) : Calls Tryz.prog 59 #[.string s, .func (.func k) #[] #[]] w fun e w' => e = .returned (.pointer (some ⟨w.heap.size, 0, none⟩)) ∧ w' = w.alloc (.cells #[.string s, .func (.func k) #[] #[], .nilIface] 148) := by
  go_enter Tryz.func59, Tryz.ntmps59
  go_wp2_with fail
  go_ret
  exact ⟨rfl, rfl⟩
end Go.Proofs.YtoggalnjjhcmkaaGreat
