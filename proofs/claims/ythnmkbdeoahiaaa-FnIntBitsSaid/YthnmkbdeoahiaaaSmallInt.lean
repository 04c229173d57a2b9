/- starlark.makeSmallInt. -/
import Derived.Test.YthnmkbdeoahiaaaStar
import Derived.Test.YthnmkbdeoahiaaaBitInt
namespace Go.Proofs.Ythnmkbdeoahiaaa
open Go.RowKit Dig
set_option linter.unusedVariables false
set_option linter.unusedSimpArgs false
set_option maxRecDepth 100000

theorem makeSmallInt_any (n : Int) (w : World) (h3 : -2147483648 ≤ n) (h4 : n ≤ 2147483647) : Calls Try.prog 58 #[.int .i64 n] w (InPost n w) := by
  go_enter Try.func58, Try.ntmps58
  go_wp2
  go_returns
  exact ⟨_, rfl, ⟨n, none, rfl, .inl ⟨rfl, rfl, h3, h4⟩⟩, by go_grown⟩
end Go.Proofs.Ythnmkbdeoahiaaa
