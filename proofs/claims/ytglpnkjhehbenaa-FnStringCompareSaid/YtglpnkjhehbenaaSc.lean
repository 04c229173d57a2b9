/- FnStringCompare: the walks: both comparisons answer by Lib.compareBytes of the two texts' bytes. -/
import Derived.Test.YtglpnkjhehbenaaFl
import Derived.Lib.Bytealg
namespace Go.Proofs.Ytglpnkjhehbenaa
open Go.RowKit
set_option linter.unusedVariables false

/-- what an operator asks of an order -/
def tw (op c : Int) : Bool := if op = 13 then c == 0 else if op = 14 then c != 0 else if op = 15 then c < 0 else if op = 16 then c ≤ 0 else if op = 17 then c > 0 else c ≥ 0
def tok (op : Int) : Int := if op = 13 then 37 else if op = 14 then 38 else if op = 15 then 33 else if op = 16 then 36 else if op = 17 then 34 else 35

theorem cb_three (a b : List UInt8) : Lib.compareBytes a b = -1 ∨ Lib.compareBytes a b = 0 ∨ Lib.compareBytes a b = 1 := by
  fun_induction Lib.compareBytes a b <;> simp_all
theorem cb_zero (a b : List UInt8) : Lib.compareBytes a b = 0 ↔ a = b := by
  fun_induction Lib.compareBytes a b with
  | case1 => simp
  | case2 => simp
  | case3 => simp
  | case4 x xs y ys h =>
    simp only [List.cons.injEq]
    constructor
    · intro h2; simp at h2
    · rintro ⟨rfl, _⟩; simp [UInt8.lt_irrefl] at h
  | case5 x xs y ys h h2 =>
    simp only [List.cons.injEq]
    constructor
    · intro h2; simp at h2
    · rintro ⟨rfl, _⟩; simp [UInt8.lt_irrefl] at h2
  | case6 x xs y ys h h2 ih =>
    have e : x = y := by
      rw [UInt8.lt_iff_toNat_lt] at h h2
      exact UInt8.toNat_inj.1 (by omega)
    simp [e, ih]

theorem run57 (a b : ByteArray) (w : World) : (callFunc 57 #[.string a, .string b]).run Try.prog w = .ok (.value (.int .i64 (Lib.compareBytes a.data.toList b.data.toList))) w := by
  rw [run_callFunc_extern Try.func57 (by kernel_rfl) (by kernel_rfl) (by kernel_rfl) (e := Extern.BytealgCompare.compare) (by kernel_rfl), Lib.run_compareString]
  rfl

theorem sc_any (a b : ByteArray) (w : World) : Calls Try.prog 35 #[.string a, .string b] w fun e w' => e = .returned (.int .i64 (Lib.compareBytes a.data.toList b.data.toList)) ∧ w = w' := by
  have h := run57
  go_enter Try.func35, Try.ntmps35
  go_wp2
  go_ret
  exact ⟨rfl, rfl⟩

theorem three_any (op c : Int) (w : World) (ho : op = 13 ∨ op = 14 ∨ op = 15 ∨ op = 16 ∨ op = 17 ∨ op = 18) (hc : c = -1 ∨ c = 0 ∨ c = 1) :
    Calls Try.prog 34 #[.int .i8 (tok op), .int .i64 c] w fun e w' => e = .returned (.bool (tw op c)) ∧ w = w' := by
  rcases ho with rfl | rfl | rfl | rfl | rfl | rfl <;> rcases hc with rfl | rfl | rfl <;> (
    simp only [tok, tw]
    go_enter Try.func34, Try.ntmps34
    go_wp2
    go_ret
    exact ⟨rfl, rfl⟩)

theorem holds_any (op c : Int) (w : World) (ho : op = 15 ∨ op = 16 ∨ op = 17 ∨ op = 18) (hc : c = -1 ∨ c = 0 ∨ c = 1) :
    Calls Try.prog 24 #[.int .i64 op, .int .i64 c] w fun e w' => e = .returned (.bool (tw op c)) ∧ w = w' := by
  rcases ho with rfl | rfl | rfl | rfl <;> rcases hc with rfl | rfl | rfl <;> (
    simp only [tw]
    go_enter Try.func24, Try.ntmps24
    go_wp2
    go_ret
    exact ⟨rfl, rfl⟩)

def TokPost (op : Int) (w : World) (e : Ending) (w' : World) : Prop := e = .returned (.tuple #[.int .i8 (tok op), .bool true]) ∧ Below w.heap.size w w'
theorem comparing_any (op : Int) (w : World) (ho : op = 13 ∨ op = 14 ∨ op = 15 ∨ op = 16 ∨ op = 17 ∨ op = 18) :
    Calls Try.prog 20 #[.int .i64 op] w (TokPost op w) := by
  rcases ho with rfl | rfl | rfl | rfl | rfl | rfl <;> (
    go_enter Try.func20, Try.ntmps20
    go_wp2
    go_ret2
    exact ⟨rfl, by go_grown⟩)

theorem assert57 (v : Value) (w : World) : (Instr.typeAssert (.iface 57 v) 76 57 false).run Try.prog w = .ok v w := by kernel_rfl

theorem same_any (op : Int) (a b : ByteArray) (w : World) (ho : op = 13 ∨ op = 14 ∨ op = 15 ∨ op = 16 ∨ op = 17 ∨ op = 18) :
    Calls Try.prog 21 #[.string a, .int .i8 (tok op), .iface 57 (.string b), .int .i64 1] w fun e w' => e = .returned (.tuple #[.bool (tw op (Lib.compareBytes a.data.toList b.data.toList)), .nilIface]) ∧ w = w' := by
  have h := assert57
  have hc := cb_three a.data.toList b.data.toList
  go_enter Try.func21, Try.ntmps21
  go_wp2_with fail
  refine (sc_any _ _ _).mono ?_
  rintro e w' ⟨rfl, rfl⟩
  go_wp2_with fail
  refine (three_any _ _ _ ho hc).mono ?_
  rintro e w' ⟨rfl, rfl⟩
  go_wp2_with fail
  go_ret2
  exact ⟨rfl, rfl⟩

def ScPost (r : Bool) (w : World) (e : Ending) (w' : World) : Prop := e = .returned (.tuple #[.bool r, .bool true]) ∧ Below w.heap.size w w'
theorem impl_any (op : Int) (a b : ByteArray) (w : World) (ho : op = 13 ∨ op = 14 ∨ op = 15 ∨ op = 16 ∨ op = 17 ∨ op = 18) :
    Calls Try.prog 10 #[.int .i64 op, .string a, .string b] w (ScPost (tw op (Lib.compareBytes a.data.toList b.data.toList)) w) := by
  go_enter Try.func10, Try.ntmps10
  go_wp2_with fail
  refine (comparing_any _ _ ho).mono ?_
  rintro e w1 ⟨rfl, h1⟩
  go_wp2_with fail
  refine (same_any _ _ _ _ ho).mono ?_
  rintro e w' ⟨rfl, rfl⟩
  go_wp2_with fail
  refine (compared_any _ _).mono ?_
  rintro e w' ⟨n, rfl, rfl⟩
  go_wp2_with fail
  go_ret2
  exact ⟨rfl, below_drewN h1 _⟩
end Go.Proofs.Ytglpnkjhehbenaa
