/- impl.bounds. -/
import Derived.Test.YtoggalnjjhcmkaaGreatScalars
import Derived.Test.YtoggalnjjhcmkaaGreatAsInt
namespace Go.Proofs.YtoggalnjjhcmkaaGreat
open Go.RowKit Dig
set_option linter.unusedVariables false
set_option linter.unusedSimpArgs false
set_option maxRecDepth 100000

theorem bounds_any (xs : List Scal) (v : Value) (w : World) (hv : VaL w w.heap.size v xs) (hok : ∀ x ∈ xs, x.ok) (hlen : xs.length ≤ 1048576) : Calls Tryz.prog 28 #[v] w (ScsPost xs w) := by
  have C := Lib.hid (scalars_any xs v w hv hok hlen)
  clear hv hok
  go_enter Tryz.func28, Tryz.ntmps28
  go_wp2_with fail
  refine C.out.mono ?_
  rintro e w1 ⟨a, c, rfl, hs, hb⟩
  have HS := Lib.hid hs; have HB := Lib.hid hb
  clear hs hb
  go_wp2_with fail
  go_ret2
  exact ⟨a, c, rfl, HS.out, HB.out⟩
end Go.Proofs.YtoggalnjjhcmkaaGreat
