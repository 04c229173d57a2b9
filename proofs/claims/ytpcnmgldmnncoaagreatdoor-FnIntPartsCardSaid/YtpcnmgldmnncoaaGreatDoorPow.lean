/- big.pow, big.maxPow: powers of a base in a word. -/
import Derived.Test.YtpcnmgldmnncoaaGreatDoorMNew
import Derived.Test.YtpcnmgldmnncoaaGreatDoorMMath
import Derived.Test.YtpcnmgldmnncoaaGreatDoorMTold
namespace Go.Proofs.YtpcnmgldmnncoaaGreatDoor
open Go.RowKit Dig
set_option linter.unusedVariables false
set_option linter.unusedSimpArgs false
set_option maxRecDepth 100000

theorem and1_i64 (n : Nat) (h : n < 128) : bits .and .i64 (n : Int) 1 = ((n % 2 : Nat) : Int) := by
  have h2 : ∀ n : Nat, n < 128 → bits .and .i64 (n : Int) 1 = ((n % 2 : Nat) : Int) := by decide +kernel
  exact h2 n h
theorem wrapM (a : Nat) : IntKind.u64.wrap (a : Int) = ((a % 18446744073709551616 : Nat) : Int) := by rw [IntKind.wrap_u64]; omega
end Go.Proofs.YtpcnmgldmnncoaaGreatDoor
