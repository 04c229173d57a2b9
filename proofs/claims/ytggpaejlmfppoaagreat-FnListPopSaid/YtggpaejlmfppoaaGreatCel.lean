/- Scalars of all six kinds: None, Bools, Ints, Floats, Strings, Bytes; impl.scalar. -/
import Derived.Test.YtggpaejlmfppoaaGreatScal
namespace Go.Proofs.YtggpaejlmfppoaaGreat
open Go.RowKit Dig
set_option linter.unusedVariables false
set_option linter.unusedSimpArgs false
set_option maxRecDepth 100000

inductive Cel where
  | non : Cel
  | boo (b : Bool) : Cel
  | int (i : Int) : Cel
  | flt (u : Int) : Cel
  | str (s : ByteArray) : Cel
  | byt (s : ByteArray) : Cel
def Cel.kind : Cel → Int
  | .non => 0
  | .boo _ => 1
  | .int _ => 2
  | .flt _ => 3
  | .str _ => 4
  | .byt _ => 5
def Cel.bits : Cel → Int
  | .boo b => if b then 1 else 0
  | .flt u => u
  | _ => 0
/-- what all scalars here keep -/
def Cel.ok : Cel → Prop
  | .int i => i.natAbs < lim
  | .flt u => 0 ≤ u
  | .str s => s.size ≤ 60
  | .byt s => s.size ≤ 60
  | _ => True
/-- an impl.Val that stands for a scalar -/
def VaC (w : World) (B : Nat) (v : Value) : Cel → Prop
  | .non => v = .agg #[.int .i64 0, .bool false, .slice none 0 0, .int .u64 0, .string ByteArray.empty, .slice none 0 0]
  | .boo b => v = .agg #[.int .i64 1, .bool false, .slice none 0 0, .int .u64 (if b then 1 else 0), .string ByteArray.empty, .slice none 0 0]
  | .int i => Va w B v i
  | .flt u => v = .agg #[.int .i64 3, .bool false, .slice none 0 0, .int .u64 u, .string ByteArray.empty, .slice none 0 0]
  | .str s => v = .agg #[.int .i64 4, .bool false, .slice none 0 0, .int .u64 0, .string s, .slice none 0 0]
  | .byt s => v = .agg #[.int .i64 5, .bool false, .slice none 0 0, .int .u64 0, .string s, .slice none 0 0]
/-- a starlark.Value that stands for a scalar -/
def SC (w : World) (B : Nat) (u : Value) : Cel → Prop
  | .non => u = .iface 81 (.int .u8 0)
  | .boo b => u = .iface 82 (.bool b)
  | .int i => ∃ s q, u = .iface 87 (.agg #[.int .i64 s, .pointer q]) ∧ In w B (.agg #[.int .i64 s, .pointer q]) i
  | .flt x => u = .iface 89 (.float .f64 x.toNat)
  | .str s => u = .iface 91 (.string s)
  | .byt s => u = .iface 92 (.string s)
theorem VaC.form {w : World} {B : Nat} {v : Value} {x : Cel} (h : VaC w B v x) : ∃ (n : Bool) (a : Option Addr) (k c : Nat) (s : ByteArray), v = .agg #[.int .i64 x.kind, .bool n, .slice a k c, .int .u64 x.bits, .string s, .slice none 0 0] := by
  cases x with
  | int i => obtain ⟨n, a, k, c, h⟩ := Va.parts h; exact ⟨n, a, k, c, _, h⟩
  | non => exact ⟨_, _, _, _, _, h⟩
  | boo b => exact ⟨_, _, _, _, _, h⟩
  | flt u => exact ⟨_, _, _, _, _, h⟩
  | str s => exact ⟨_, _, _, _, _, h⟩
  | byt s => exact ⟨_, _, _, _, _, h⟩
theorem VaC.below {w w' : World} {B : Nat} {v : Value} {x : Cel} (h : VaC w B v x) (hb : Below B w w') : VaC w' B v x := by
  cases x with
  | int i => exact Va.below h hb
  | non => exact h
  | boo b => exact h
  | flt u => exact h
  | str s => exact h
  | byt s => exact h
theorem VaC.more {w : World} {B B' : Nat} {v : Value} {x : Cel} (h : VaC w B v x) (hB : B ≤ B') : VaC w B' v x := by
  cases x with
  | int i => exact Va.more h hB
  | non => exact h
  | boo b => exact h
  | flt u => exact h
  | str s => exact h
  | byt s => exact h
theorem SC.below {w w' : World} {B : Nat} {v : Value} {x : Cel} (h : SC w B v x) (hb : Below B w w') : SC w' B v x := by
  cases x with
  | int i => obtain ⟨s, q, h1, h2⟩ := h; exact ⟨s, q, h1, h2.below hb⟩
  | non => exact h
  | boo b => exact h
  | flt u => exact h
  | str s => exact h
  | byt s => exact h
theorem SC.more {w : World} {B B' : Nat} {v : Value} {x : Cel} (h : SC w B v x) (hB : B ≤ B') : SC w B' v x := by
  cases x with
  | int i => obtain ⟨s, q, h1, h2⟩ := h; exact ⟨s, q, h1, h2.more hB⟩
  | non => exact h
  | boo b => exact h
  | flt u => exact h
  | str s => exact h
  | byt s => exact h
theorem SC.up_far {w w' : World} {B g : Nat} {v : Value} {x : Cel} {L : List Value} {e : TypeId} (h : SC w B v x) (hk : Blk w g e L) (he : 151 ≠ e) (hd : ∀ u ∈ L, ∀ m, u ≠ wv m) (hu : Up (some g) w w') : SC w' B v x := by
  cases x with
  | int i => obtain ⟨s, q, h1, h2⟩ := h; exact ⟨s, q, h1, h2.up_far hk he hd hu⟩
  | non => exact h
  | boo b => exact h
  | flt u => exact h
  | str s => exact h
  | byt s => exact h
theorem SC.iface {w : World} {B : Nat} {u : Value} {x : Cel} (h : SC w B u x) : ∃ T y, u = .iface T y := by
  cases x with
  | int i => obtain ⟨s, q, h1, h2⟩ := h; exact ⟨_, _, h1⟩
  | non => exact ⟨_, _, h⟩
  | boo b => exact ⟨_, _, h⟩
  | flt u => exact ⟨_, _, h⟩
  | str s => exact ⟨_, _, h⟩
  | byt s => exact ⟨_, _, h⟩
theorem frombits (n : Int) (w : World) : (callFunc 53 #[.int .u64 n]).run Tryz.prog w = .ok (.value (.float .f64 n.toNat)) w := by kernel_rfl
theorem tobits (n : Nat) (w : World) : (callFunc 69 #[.float .f64 n]).run Tryz.prog w = .ok (.value (.int .u64 (n : Int))) w := by kernel_rfl
theorem floatOf_any (u : Int) (w : World) : Calls Tryz.prog 75 #[.int .u64 u] w fun e w' => e = .returned (.float .f64 u.toNat) ∧ w' = w := by
  have hf := frombits
  go_enter Tryz.func75, Tryz.ntmps75
  go_wp2_with fail
  go_ret
  exact ⟨rfl, rfl⟩
theorem bitsOf_any (n : Nat) (w : World) : Calls Tryz.prog 44 #[.float .f64 n] w fun e w' => e = .returned (.int .u64 (n : Int)) ∧ w' = w := by
  have hf := tobits
  go_enter Tryz.func44, Tryz.ntmps44
  go_wp2_with fail
  go_ret
  exact ⟨rfl, rfl⟩
def CelPost (x : Cel) (w : World) (e : Ending) (w' : World) : Prop := ∃ T y, e = .returned (.tuple #[.iface T y, .bool true]) ∧ SC w' w'.heap.size (.iface T y) x ∧ Below w.heap.size w w'
set_option maxHeartbeats 1600000 in
theorem celScalar_any (x : Cel) (v : Value) (w : World) (hv : VaC w w.heap.size v x) (hok : x.ok) : Calls Tryz.prog 57 #[.int .i64 x.kind, v] w (CelPost x w) := by
  cases x with
  | non =>
    obtain rfl : v = _ := hv
    unfold Cel.kind
    go_enter Tryz.func57, Tryz.ntmps57
    go_wp2_with fail
    go_ret2
    exact ⟨_, _, rfl, rfl, (Below.refl _ _).alloc (Nat.le_refl _) _⟩
  | boo b =>
    obtain rfl : v = _ := hv
    unfold Cel.kind
    cases b <;>
    (go_enter Tryz.func57, Tryz.ntmps57
     go_wp2_with fail
     go_quiet (fail)
     go_wp2_with fail
     go_ret2
     exact ⟨_, _, rfl, rfl, below_drewN ((Below.refl _ _).alloc (Nat.le_refl _) _) _⟩)
  | int i =>
    obtain ⟨n, a, k, c, rfl⟩ := Va.parts hv
    have hb0 : Below w.heap.size w (w.alloc (.cells #[.int .i64 2, .bool n, .slice a k c, .int .u64 0, .string ByteArray.empty, .slice none 0 0] 27)) := (Below.refl _ _).alloc (Nat.le_refl _) _
    have C := Lib.hid (whole_any _ i _ ((Va.below hv hb0).more hb0.size) hok)
    have HB := Lib.hid hb0
    clear hv hok hb0
    unfold Cel.kind
    go_enter Tryz.func57, Tryz.ntmps57
    go_wp2_with fail
    refine C.out.mono ?_
    rintro e w1 ⟨u, rfl, hin, hb⟩
    obtain ⟨s, q, rfl⟩ := hin.form
    have HI := Lib.hid hin
    have HB1 := Lib.hid (HB.out.trans (hb.mono HB.out.size))
    clear hin hb
    go_wp2_with fail
    go_ret2
    exact ⟨_, _, rfl, ⟨s, q, rfl, HI.out⟩, HB1.out⟩
  | flt u =>
    obtain rfl : v = _ := hv
    have FO := Lib.hid (floatOf_any u)
    unfold Cel.kind
    go_enter Tryz.func57, Tryz.ntmps57
    go_wp2_with fail
    refine (FO.out _).mono ?_
    rintro e w1 ⟨rfl, rfl⟩
    go_wp2_with fail
    go_ret2
    exact ⟨_, _, rfl, rfl, (Below.refl _ _).alloc (Nat.le_refl _) _⟩
  | str s =>
    obtain rfl : v = _ := hv
    unfold Cel.kind
    go_enter Tryz.func57, Tryz.ntmps57
    go_wp2_with fail
    go_ret2
    exact ⟨_, _, rfl, rfl, (Below.refl _ _).alloc (Nat.le_refl _) _⟩
  | byt s =>
    obtain rfl : v = _ := hv
    unfold Cel.kind
    go_enter Tryz.func57, Tryz.ntmps57
    go_wp2_with fail
    go_ret2
    exact ⟨_, _, rfl, rfl, (Below.refl _ _).alloc (Nat.le_refl _) _⟩
end Go.Proofs.YtggpaejlmfppoaaGreat
