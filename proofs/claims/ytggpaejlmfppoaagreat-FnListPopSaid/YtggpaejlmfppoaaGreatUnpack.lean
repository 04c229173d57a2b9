/- starlark.AsInt, unpackArgNoEscape, checkPositionalArgs: an argument that comes into a variable of the type int (printed by genunpack.py). -/
import Derived.Test.YtggpaejlmfppoaaGreatScalars
import Derived.Test.YtggpaejlmfppoaaGreatAsInt
namespace Go.Proofs.YtggpaejlmfppoaaGreat
open Go.RowKit Dig
set_option linter.unusedVariables false
set_option linter.unusedSimpArgs false
set_option maxRecDepth 100000

theorem taI0 (p : Option Addr) (w : World) : (Instr.typeAssert (.iface 120 (.pointer p)) 20 137 true).run Tryz.prog w = .ok (.tuple #[.pointer none, .bool false]) w := by kernel_rfl
theorem taI1 (p : Option Addr) (w : World) : (Instr.typeAssert (.iface 120 (.pointer p)) 20 160 true).run Tryz.prog w = .ok (.tuple #[.pointer none, .bool false]) w := by kernel_rfl
theorem taI2 (p : Option Addr) (w : World) : (Instr.typeAssert (.iface 120 (.pointer p)) 20 163 true).run Tryz.prog w = .ok (.tuple #[.pointer none, .bool false]) w := by kernel_rfl
theorem taI3 (p : Option Addr) (w : World) : (Instr.typeAssert (.iface 120 (.pointer p)) 20 164 true).run Tryz.prog w = .ok (.tuple #[.pointer none, .bool false]) w := by kernel_rfl
theorem taI4 (p : Option Addr) (w : World) : (Instr.typeAssert (.iface 120 (.pointer p)) 20 165 true).run Tryz.prog w = .ok (.tuple #[.pointer none, .bool false]) w := by kernel_rfl
theorem taI5 (p : Option Addr) (w : World) : (Instr.typeAssert (.iface 120 (.pointer p)) 20 166 true).run Tryz.prog w = .ok (.tuple #[.pointer none, .bool false]) w := by kernel_rfl
theorem taI6 (p : Option Addr) (w : World) : (Instr.typeAssert (.iface 120 (.pointer p)) 20 167 true).run Tryz.prog w = .ok (.tuple #[.pointer none, .bool false]) w := by kernel_rfl
theorem taI7 (p : Option Addr) (w : World) : (Instr.typeAssert (.iface 120 (.pointer p)) 20 168 true).run Tryz.prog w = .ok (.tuple #[.pointer none, .bool false]) w := by kernel_rfl
theorem taI8 (p : Option Addr) (w : World) : (Instr.typeAssert (.iface 120 (.pointer p)) 20 169 true).run Tryz.prog w = .ok (.tuple #[.pointer none, .bool false]) w := by kernel_rfl
theorem taI9 (p : Option Addr) (w : World) : (Instr.typeAssert (.iface 120 (.pointer p)) 20 170 true).run Tryz.prog w = .ok (.tuple #[.pointer none, .bool false]) w := by kernel_rfl
theorem taI10 (p : Option Addr) (w : World) : (Instr.typeAssert (.iface 120 (.pointer p)) 20 171 true).run Tryz.prog w = .ok (.tuple #[.pointer none, .bool false]) w := by kernel_rfl
theorem taI11 (p : Option Addr) (w : World) : (Instr.typeAssert (.iface 120 (.pointer p)) 20 172 true).run Tryz.prog w = .ok (.tuple #[.pointer none, .bool false]) w := by kernel_rfl
theorem taI12 (p : Option Addr) (w : World) : (Instr.typeAssert (.iface 120 (.pointer p)) 20 173 true).run Tryz.prog w = .ok (.tuple #[.pointer none, .bool false]) w := by kernel_rfl
theorem taIyes (p : Option Addr) (w : World) : (Instr.typeAssert (.iface 120 (.pointer p)) 20 120 true).run Tryz.prog w = .ok (.tuple #[.pointer p, .bool true]) w := by kernel_rfl
theorem assertIntNon (w : World) : (Instr.typeAssert (.iface 81 (.int .u8 0)) 47 87 true).run Tryz.prog w = .ok (.tuple #[.agg #[.int .i64 0, .pointer none], .bool false]) w := by kernel_rfl
theorem assertIntStr (s : ByteArray) (w : World) : (Instr.typeAssert (.iface 91 (.string s)) 47 87 true).run Tryz.prog w = .ok (.tuple #[.agg #[.int .i64 0, .pointer none], .bool false]) w := by kernel_rfl

/-- the number of a small integer -/
theorem int64Small_any (i : Int) (w : World) (h1 : -2147483648 ≤ i) (h2 : i ≤ 2147483647) :
    Calls Tryz.prog 99 #[.agg #[.int .i64 i, .pointer none]] w fun e w' => e = .returned (.tuple #[.int .i64 i, .bool true]) ∧ Below w.heap.size w w' := by
  have HB0 : Hid (Below w.heap.size w ((w.alloc (.cells #[.int .i64 i, .pointer none] 87)))) := (Below.refl _ _).alloc (Nat.le_refl _) _
  go_enter Tryz.func99, Tryz.ntmps99
  go_wp2_with fail
  refine (get_any _ _ _).mono ?_
  rintro e w1 ⟨rfl, hb1⟩
  have HB1 := Lib.hid (HB0.out.trans (hb1.mono HB0.out.size))
  clear hb1
  go_wp2_with fail
  go_ret2
  exact ⟨rfl, HB1.out⟩

/-- the number has come into the variable -/
def IntPut (b : Nat) (i : Int) (w : World) (e : Ending) (w' : World) : Prop :=
  e = .returned .nilIface ∧ ∃ w1, Below w.heap.size w w1 ∧ w' = w1.setCell ⟨b, 0, none⟩ (.int .i64 i)
set_option maxHeartbeats 3200000 in
theorem asInt_yes (b : Nat) (i j : Int) (w : World) (hb : Blk w b 3 [.int .i64 j]) (h1 : -2147483648 ≤ i) (h2 : i ≤ 2147483647) :
    Calls Tryz.prog 90 #[.iface 87 (.agg #[.int .i64 i, .pointer none]), .iface 120 (.pointer (some ⟨b, 0, none⟩))] w (IntPut b i w) := by
  have hta := assertIntOk
  have i0 := taI0
  have i1 := taI1
  have i2 := taI2
  have i3 := taI3
  have i4 := taI4
  have i5 := taI5
  have i6 := taI6
  have i7 := taI7
  have i8 := taI8
  have i9 := taI9
  have i10 := taI10
  have i11 := taI11
  have i12 := taI12
  have iy := taIyes
  have HB0 : Hid (Below w.heap.size w ((w.alloc (.cells #[.int .i64 i, .pointer none] 87)))) := (Below.refl _ _).alloc (Nat.le_refl _) _
  have HK := Lib.hid hb
  clear hb
  go_enter Tryz.func90, Tryz.ntmps90
  go_wp2_with fail
  refine (int64Small_any _ _ h1 h2).mono ?_
  rintro e w1 ⟨rfl, hb1⟩
  have HB1 := Lib.hid (HB0.out.trans (hb1.mono HB0.out.size))
  have hk := HK.out.below HB1.out HK.out.lt
  have c0 := hk.cell 0 (by simp)
  have f0 := hk.free 0
  have hlt := hk.lt
  clear hb1 hk
  go_wp2_with fail
  go_ret
  exact ⟨rfl, _, HB1.out, rfl⟩

theorem asInt_non (p : Value) (w : World) : Calls Tryz.prog 90 #[.iface 81 (.int .u8 0), p] w (ErrPost w) := by
  have hta := assertIntNon
  have HB0 : Hid (Below w.heap.size w ((w.alloc (.cells #[.int .i64 0, .pointer none] 87)))) := (Below.refl _ _).alloc (Nat.le_refl _) _
  go_enter Tryz.func90, Tryz.ntmps90
  go_wp2_with fail
  refine (errNew_any _ _).mono ?_
  rintro e w1 ⟨b, rfl, hb1⟩
  have HB1 := Lib.hid (HB0.out.trans (hb1.mono HB0.out.size))
  clear hb1
  go_wp2_with fail
  go_ret
  exact ⟨_, rfl, HB1.out⟩

theorem asInt_str (s : ByteArray) (p : Value) (w : World) : Calls Tryz.prog 90 #[.iface 91 (.string s), p] w (ErrPost w) := by
  have hta := assertIntStr
  have HB0 : Hid (Below w.heap.size w ((w.alloc (.cells #[.int .i64 0, .pointer none] 87)))) := (Below.refl _ _).alloc (Nat.le_refl _) _
  go_enter Tryz.func90, Tryz.ntmps90
  go_wp2_with fail
  refine (errNew_any _ _).mono ?_
  rintro e w1 ⟨b, rfl, hb1⟩
  have HB1 := Lib.hid (HB0.out.trans (hb1.mono HB0.out.size))
  clear hb1
  go_wp2_with fail
  go_ret
  exact ⟨_, rfl, HB1.out⟩

set_option maxHeartbeats 3200000 in
theorem unpackInt_yes (b : Nat) (i j : Int) (w : World) (hb : Blk w b 3 [.int .i64 j]) (h1 : -2147483648 ≤ i) (h2 : i ≤ 2147483647) :
    Calls Tryz.prog 77 #[.iface 87 (.agg #[.int .i64 i, .pointer none]), .iface 120 (.pointer (some ⟨b, 0, none⟩))] w (IntPut b i w) := by
  have i0 := taI0
  have i1 := taI1
  have i2 := taI2
  have i3 := taI3
  have i4 := taI4
  have i5 := taI5
  have i6 := taI6
  have i7 := taI7
  have i8 := taI8
  have i9 := taI9
  have i10 := taI10
  have i11 := taI11
  have i12 := taI12
  have iy := taIyes
  have C := Lib.hid (asInt_yes b i j w hb h1 h2)
  clear hb
  go_enter Tryz.func77, Tryz.ntmps77
  go_wp2_with (go_at_call 90; refine C.out.mono ?_; rintro e w1 ⟨rfl, w2, hb2, rfl⟩; have HB2 := Lib.hid hb2; clear hb2)
  go_ret
  exact ⟨rfl, _, HB2.out, rfl⟩

set_option maxHeartbeats 3200000 in
theorem unpackInt_non (p : Option Addr) (w : World) : Calls Tryz.prog 77 #[.iface 81 (.int .u8 0), .iface 120 (.pointer p)] w (ErrPost w) := by
  have i0 := taI0
  have i1 := taI1
  have i2 := taI2
  have i3 := taI3
  have i4 := taI4
  have i5 := taI5
  have i6 := taI6
  have i7 := taI7
  have i8 := taI8
  have i9 := taI9
  have i10 := taI10
  have i11 := taI11
  have i12 := taI12
  have iy := taIyes
  have C := Lib.hid (asInt_non (.iface 120 (.pointer p)) w)
  go_enter Tryz.func77, Tryz.ntmps77
  go_wp2_with (go_at_call 90; refine C.out.mono ?_; rintro e w1 ⟨b, rfl, hb1⟩; have HB1 := Lib.hid hb1; clear hb1)
  go_ret
  exact ⟨_, rfl, HB1.out⟩

set_option maxHeartbeats 3200000 in
theorem unpackInt_str (s : ByteArray) (p : Option Addr) (w : World) : Calls Tryz.prog 77 #[.iface 91 (.string s), .iface 120 (.pointer p)] w (ErrPost w) := by
  have i0 := taI0
  have i1 := taI1
  have i2 := taI2
  have i3 := taI3
  have i4 := taI4
  have i5 := taI5
  have i6 := taI6
  have i7 := taI7
  have i8 := taI8
  have i9 := taI9
  have i10 := taI10
  have i11 := taI11
  have i12 := taI12
  have iy := taIyes
  have C := Lib.hid (asInt_str s (.iface 120 (.pointer p)) w)
  go_enter Tryz.func77, Tryz.ntmps77
  go_wp2_with (go_at_call 90; refine C.out.mono ?_; rintro e w1 ⟨b, rfl, hb1⟩; have HB1 := Lib.hid hb1; clear hb1)
  go_ret
  exact ⟨_, rfl, HB1.out⟩

/-- the number of arguments fits -/
theorem checkPos_yes (s : ByteArray) (a : Option Addr) (n c : Nat) (lo hi : Nat) (w : World) (h1 : lo ≤ n) (h2 : n ≤ hi) (h3 : hi ≤ 100) :
    Calls Tryz.prog 76 #[.string s, .slice a n c, .slice none 0 0, .int .i64 (lo : Int), .int .i64 (hi : Int)] w fun e w' => e = .returned .nilIface ∧ w' = w := by
  have d1 : decide (n < lo) = false := by simp; omega
  have d2 : decide (hi < n) = false := by simp; omega
  go_enter Tryz.func76, Tryz.ntmps76
  go_wp2_with fail
  go_ret
  exact ⟨rfl, rfl⟩
end Go.Proofs.YtggpaejlmfppoaaGreat
