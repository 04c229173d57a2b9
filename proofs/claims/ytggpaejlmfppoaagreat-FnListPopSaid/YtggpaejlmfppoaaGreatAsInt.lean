/- errors.New, starlark.AsInt32 of an integer. -/
import Derived.Test.YtggpaejlmfppoaaGreatWhole2
namespace Go.Proofs.YtggpaejlmfppoaaGreat
open Go.RowKit Dig
set_option linter.unusedVariables false
set_option linter.unusedSimpArgs false
set_option maxRecDepth 100000

/-- an error of the library's -/
def ErrPost (w : World) (e : Ending) (w' : World) : Prop := ∃ b, e = .returned (.iface 185 (.pointer (some ⟨b, 0, none⟩))) ∧ Below w.heap.size w w'
theorem errNew_any (s : ByteArray) (w : World) : Calls Tryz.prog 78 #[.string s] w (ErrPost w) := by
  go_enter Tryz.func78, Tryz.ntmps78
  go_wp2_with fail
  go_ret
  exact ⟨_, rfl, (Below.refl _ _).alloc (Nat.le_refl _) _⟩

theorem assertIntOk (v : Value) (w : World) : (Instr.typeAssert (.iface 87 v) 47 87 true).run Tryz.prog w = .ok (.tuple #[v, .bool true]) w := by kernel_rfl
/-- the number, or an error -/
def A32Post (i : Int) (w : World) (e : Ending) (w' : World) : Prop :=
  Below w.heap.size w w' ∧ ((-2147483648 ≤ i ∧ i ≤ 2147483647 ∧ e = .returned (.tuple #[.int .i64 i, .nilIface])) ∨ (¬ (-2147483648 ≤ i ∧ i ≤ 2147483647) ∧ ∃ b, e = .returned (.tuple #[.int .i64 0, .iface 185 (.pointer (some ⟨b, 0, none⟩))])))
end Go.Proofs.YtggpaejlmfppoaaGreat
