/- FnFloatEqual: what the two comparisons of floats answer, by the order of the model's floats; and the walks. -/
import Derived.Test.YtglpnkjhehbenaaRows
import Derived.WalkKit
import Derived.ProofKit
import Derived.Handy
import Derived.Below
import Derived.Lib.Hide
import Derived.Deep.QuietTactic
import Derived.BigQuiet
import Derived.WalkSmall
import Derived.WalkLawsBesides
namespace Go.Proofs.Ytglpnkjhehbenaa
open Go.RowKit
set_option linter.unusedVariables false

theorem datum_self (d : Ieee.Datum) : d.order d = none ∨ d.order d = some .eq := by
  cases d with
  | nan => left; rfl
  | infinity s => right; cases s <;> rfl
  | number s m i => right; simp [Ieee.Datum.order]
theorem datum_none (d e : Ieee.Datum) : d.order e = none ↔ (d.order d = none ∨ e.order e = none) := by
  cases d <;> cases e <;> simp [Ieee.Datum.order]

/-- the order of two words -/
def ord (x y : Nat) : Option Ordering := FloatKind.f64.format.order x y
theorem ord_self (x : Nat) : ord x x = none ∨ ord x x = some .eq := datum_self _
theorem ord_none (x y : Nat) : ord x y = none ↔ (ord x x = none ∨ ord y y = none) := datum_none _ _

/-- are they equal, or both no number? -/
def same (x y : Nat) : Bool := ord x y == some .eq || (ord x x == none && ord y y == none)

theorem bits8 (n : Int) (w : World) : (callFunc 8 #[.int .u64 n]).run Try.prog w = .ok (.value (.float .f64 n.toNat)) w := by kernel_rfl
theorem assert47 (v : Value) (w : World) : (Instr.typeAssert (.iface 47 v) 76 47 false).run Try.prog w = .ok v w := by kernel_rfl

def FcPost (x y : Nat) (w : World) (e : Ending) (w' : World) : Prop := ∃ c : Int, e = .returned (.int .i64 c) ∧ (c == 0) = same x y ∧ w = w'

theorem fc_any (x y : Nat) (w : World) : Calls Try.prog 33 #[.float .f64 x, .float .f64 y] w (FcPost x y w) := by
  rcases ho : ord x y with _ | o
  · have hn := (ord_none x y).1 ho
    rcases ord_self x with hx | hx <;> rcases ord_self y with hy | hy
    · have fin : same x y = true := by simp [same, ho, hx, hy]
      have FIN := Lib.hid fin
      simp only [ord] at ho hx hy
      clear hn fin
      go_enter Try.func33, Try.ntmps33
      go_wp2
      go_ret
      exact ⟨0, rfl, by rw [FIN.out]; rfl, rfl⟩
    · have fin : same x y = false := by simp [same, ho, hx, hy]
      have FIN := Lib.hid fin
      simp only [ord] at ho hx hy
      clear hn fin
      go_enter Try.func33, Try.ntmps33
      go_wp2
      go_ret
      exact ⟨_, rfl, by rw [FIN.out]; rfl, rfl⟩
    · have fin : same x y = false := by simp [same, ho, hx, hy]
      have FIN := Lib.hid fin
      simp only [ord] at ho hx hy
      clear hn fin
      go_enter Try.func33, Try.ntmps33
      go_wp2
      go_ret
      exact ⟨_, rfl, by rw [FIN.out]; rfl, rfl⟩
    · simp [hx, hy] at hn
  · have fin : same x y = (o == .eq) := by
      have := mt (ord_none x y).2 (by simp [ho])
      simp only [not_or] at this
      simp [same, ho, this.1]
    have FIN := Lib.hid fin
    simp only [ord] at ho
    clear fin
    cases o <;> (go_enter Try.func33, Try.ntmps33; go_wp2; go_ret; exact ⟨_, rfl, by rw [FIN.out]; rfl, rfl⟩)

theorem cf_any (x y : Nat) (w : World) : Calls Try.prog 7 #[.float .f64 x, .float .f64 y] w (FcPost x y w) := by
  rcases ho : ord x y with _ | o
  · have hn := (ord_none x y).1 ho
    rcases ord_self x with hx | hx <;> rcases ord_self y with hy | hy
    · have fin : same x y = true := by simp [same, ho, hx, hy]
      have FIN := Lib.hid fin
      simp only [ord] at ho hx hy
      clear hn fin
      go_enter Try.func7, Try.ntmps7
      go_wp2
      go_ret
      exact ⟨0, rfl, by rw [FIN.out]; rfl, rfl⟩
    · have fin : same x y = false := by simp [same, ho, hx, hy]
      have FIN := Lib.hid fin
      simp only [ord] at ho hx hy
      clear hn fin
      go_enter Try.func7, Try.ntmps7
      go_wp2
      go_ret
      exact ⟨_, rfl, by rw [FIN.out]; rfl, rfl⟩
    · have fin : same x y = false := by simp [same, ho, hx, hy]
      have FIN := Lib.hid fin
      simp only [ord] at ho hx hy
      clear hn fin
      go_enter Try.func7, Try.ntmps7
      go_wp2
      go_ret
      exact ⟨_, rfl, by rw [FIN.out]; rfl, rfl⟩
    · simp [hx, hy] at hn
  · have hne := mt (ord_none x y).2 (by simp [ho])
    simp only [not_or] at hne
    have fin : same x y = (o == .eq) := by simp [same, ho, hne.1]
    have hx := (ord_self x).resolve_left hne.1
    have hy := (ord_self y).resolve_left hne.2
    have FIN := Lib.hid fin
    simp only [ord] at ho hx hy
    clear fin hne
    cases o <;> (go_enter Try.func7, Try.ntmps7; go_wp2; go_ret; exact ⟨_, rfl, by rw [FIN.out]; rfl, rfl⟩)

theorem cmp_any (x y : Nat) (w : World) : Calls Try.prog 17 #[.float .f64 x, .iface 47 (.float .f64 y), .int .i64 1] w fun e w' => ∃ c : Int, e = .returned (.tuple #[.int .i64 c, .nilIface]) ∧ (c == 0) = same x y ∧ w = w' := by
  have ha := assert47
  go_enter Try.func17, Try.ntmps17
  go_wp2_with fail
  refine (fc_any _ _ _).mono ?_
  rintro e w' ⟨c, rfl, hc, rfl⟩
  have HC := Lib.hid hc
  clear hc
  go_wp2_with fail
  go_ret2
  exact ⟨_, rfl, HC.out, rfl⟩

theorem errnil (w : World) : (binOp .eql 45 .nilIface .nilIface).run Try.prog w = .ok (.bool true) w := by kernel_rfl

/-- 'is && err == nil, err == nil' at no error -/
def CdPost (b : Bool) (w : World) (e : Ending) (w' : World) : Prop := ∃ n : Nat, e = .returned (.tuple #[.bool b, .bool true]) ∧ w' = w.drewN n
theorem compared_any (b : Bool) (w : World) : Calls Try.prog 18 #[.bool b, .nilIface] w (CdPost b w) := by
  have hnn := errnil
  cases b
  · go_enter Try.func18, Try.ntmps18
    go_wp2
    go_quiet (fail)
    go_wp2
    go_ret2
    exact ⟨_, rfl, rfl⟩
  · go_enter Try.func18, Try.ntmps18
    go_wp2
    go_quiet (fail)
    go_wp2
    go_ret2
    exact ⟨_, rfl, rfl⟩

theorem fe_any (x y : Int) (w : World) : Calls Try.prog 6 #[.int .u64 x, .int .u64 y] w (CdPost (same x.toNat y.toNat) w) := by
  have h8 := bits8
  go_enter Try.func6, Try.ntmps6
  go_wp2_with (go_at_call 16; go_in)
  go_wp2_with fail
  refine (cmp_any _ _ _).mono ?_
  rintro e w' ⟨c, rfl, hc, rfl⟩
  have HC := Lib.hid hc
  clear hc
  go_wp2_with fail
  rw [HC.out]
  refine (compared_any _ _).mono ?_
  rintro e w' ⟨n, rfl, rfl⟩
  go_wp2_with fail
  go_ret2
  exact ⟨_, rfl, rfl⟩

theorem law3 (x y : Int) (w : World) : Calls Try.prog 3 #[.int .u64 x, .int .u64 y] w fun e w' => e = .returned (.bool true) ∧ Below w.heap.size w w' := by
  have h8 := bits8
  go_enter Try.func3, Try.ntmps3
  go_wp2_with fail
  refine (fe_any _ _ _).mono ?_
  rintro e w' ⟨n, rfl, rfl⟩
  go_wp2_with fail
  refine (cf_any _ _ _).mono ?_
  rintro e w' ⟨c, rfl, hc, rfl⟩
  have HC := Lib.hid hc
  clear hc
  go_wp2_with fail
  go_ret
  rw [HC.out]
  exact ⟨by simp, below_drewN (Below.refl _ _) _⟩
end Go.Proofs.Ytglpnkjhehbenaa
