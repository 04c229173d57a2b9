/- starlark.unpackArgNoEscape for *Iterable at a list; unpackPositionalArgsNoEscape at it (printed by genallunp.py). -/
import Derived.Test.YtggpaejlmfppoaaGreatAllIt
import Derived.Test.YtggpaejlmfppoaaGreatUnpos
namespace Go.Proofs.YtggpaejlmfppoaaGreat
open Go.RowKit Dig
set_option linter.unusedVariables false
set_option linter.unusedSimpArgs false
set_option maxRecDepth 100000

theorem taQ0 (p : Option Addr) (w : World) : (Instr.typeAssert (.iface 132 (.pointer p)) 20 137 true).run Tryz.prog w = .ok (.tuple #[.pointer none, .bool false]) w := by kernel_rfl
theorem taQ1 (p : Option Addr) (w : World) : (Instr.typeAssert (.iface 132 (.pointer p)) 20 160 true).run Tryz.prog w = .ok (.tuple #[.pointer none, .bool false]) w := by kernel_rfl
theorem taQ2 (p : Option Addr) (w : World) : (Instr.typeAssert (.iface 132 (.pointer p)) 20 163 true).run Tryz.prog w = .ok (.tuple #[.pointer none, .bool false]) w := by kernel_rfl
theorem taQ3 (p : Option Addr) (w : World) : (Instr.typeAssert (.iface 132 (.pointer p)) 20 120 true).run Tryz.prog w = .ok (.tuple #[.pointer none, .bool false]) w := by kernel_rfl
theorem taQ4 (p : Option Addr) (w : World) : (Instr.typeAssert (.iface 132 (.pointer p)) 20 164 true).run Tryz.prog w = .ok (.tuple #[.pointer none, .bool false]) w := by kernel_rfl
theorem taQ5 (p : Option Addr) (w : World) : (Instr.typeAssert (.iface 132 (.pointer p)) 20 165 true).run Tryz.prog w = .ok (.tuple #[.pointer none, .bool false]) w := by kernel_rfl
theorem taQ6 (p : Option Addr) (w : World) : (Instr.typeAssert (.iface 132 (.pointer p)) 20 166 true).run Tryz.prog w = .ok (.tuple #[.pointer none, .bool false]) w := by kernel_rfl
theorem taQ7 (p : Option Addr) (w : World) : (Instr.typeAssert (.iface 132 (.pointer p)) 20 167 true).run Tryz.prog w = .ok (.tuple #[.pointer none, .bool false]) w := by kernel_rfl
theorem taQ8 (p : Option Addr) (w : World) : (Instr.typeAssert (.iface 132 (.pointer p)) 20 168 true).run Tryz.prog w = .ok (.tuple #[.pointer none, .bool false]) w := by kernel_rfl
theorem taQ9 (p : Option Addr) (w : World) : (Instr.typeAssert (.iface 132 (.pointer p)) 20 169 true).run Tryz.prog w = .ok (.tuple #[.pointer none, .bool false]) w := by kernel_rfl
theorem taQ10 (p : Option Addr) (w : World) : (Instr.typeAssert (.iface 132 (.pointer p)) 20 170 true).run Tryz.prog w = .ok (.tuple #[.pointer none, .bool false]) w := by kernel_rfl
theorem taQ11 (p : Option Addr) (w : World) : (Instr.typeAssert (.iface 132 (.pointer p)) 20 171 true).run Tryz.prog w = .ok (.tuple #[.pointer none, .bool false]) w := by kernel_rfl
theorem taQ12 (p : Option Addr) (w : World) : (Instr.typeAssert (.iface 132 (.pointer p)) 20 172 true).run Tryz.prog w = .ok (.tuple #[.pointer none, .bool false]) w := by kernel_rfl
theorem taQ13 (p : Option Addr) (w : World) : (Instr.typeAssert (.iface 132 (.pointer p)) 20 173 true).run Tryz.prog w = .ok (.tuple #[.pointer none, .bool false]) w := by kernel_rfl
theorem taQ14 (p : Option Addr) (w : World) : (Instr.typeAssert (.iface 132 (.pointer p)) 20 174 true).run Tryz.prog w = .ok (.tuple #[.pointer none, .bool false]) w := by kernel_rfl
theorem taQ15 (p : Option Addr) (w : World) : (Instr.typeAssert (.iface 132 (.pointer p)) 20 176 true).run Tryz.prog w = .ok (.tuple #[.pointer none, .bool false]) w := by kernel_rfl
theorem taQ16 (p : Option Addr) (w : World) : (Instr.typeAssert (.iface 132 (.pointer p)) 20 177 true).run Tryz.prog w = .ok (.tuple #[.pointer none, .bool false]) w := by kernel_rfl
theorem taQ17 (p : Option Addr) (w : World) : (Instr.typeAssert (.iface 132 (.pointer p)) 20 180 true).run Tryz.prog w = .ok (.tuple #[.pointer none, .bool false]) w := by kernel_rfl
theorem taQyes (p : Option Addr) (w : World) : (Instr.typeAssert (.iface 132 (.pointer p)) 20 132 true).run Tryz.prog w = .ok (.tuple #[.pointer p, .bool true]) w := by kernel_rfl
theorem listIsIter (p : Option Addr) (w : World) : (Instr.typeAssert (.iface 40 (.pointer p)) 47 131 true).run Tryz.prog w = .ok (.tuple #[.iface 40 (.pointer p), .bool true]) w := by kernel_rfl
set_option maxHeartbeats 3200000 in
theorem unpackIter_any (b : Nat) (p : Option Addr) (v : Value) (w : World) (hb : Blk w b 131 [v]) :
    Calls Tryz.prog 77 #[.iface 40 (.pointer p), .iface 132 (.pointer (some ⟨b, 0, none⟩))] w fun e w' => e = .returned .nilIface ∧ w' = w.setCell ⟨b, 0, none⟩ (.iface 40 (.pointer p)) := by
  have i0 := taQ0
  have i1 := taQ1
  have i2 := taQ2
  have i3 := taQ3
  have i4 := taQ4
  have i5 := taQ5
  have i6 := taQ6
  have i7 := taQ7
  have i8 := taQ8
  have i9 := taQ9
  have i10 := taQ10
  have i11 := taQ11
  have i12 := taQ12
  have i13 := taQ13
  have i14 := taQ14
  have i15 := taQ15
  have i16 := taQ16
  have i17 := taQ17
  have iy := taQyes
  have il := listIsIter
  have c0 := hb.cell 0 (by simp)
  have f0 := hb.free 0
  have l0 := hb.lt
  clear hb
  go_enter Tryz.func77, Tryz.ntmps77
  go_wp2_with fail
  go_ret
  exact ⟨rfl, rfl⟩
theorem unpackPosIter_any (nm : ByteArray) (ga oa ca gv b : Nat) (p : Option Addr) (v : Value) (w : World)
    (c1 : w.cell? ⟨ga, oa, none⟩ = some (.iface 40 (.pointer p))) (hgv : Blk w gv 20 [.iface 132 (.pointer (some ⟨b, 0, none⟩))]) (hb : Blk w b 131 [v]) :
    Calls Tryz.prog 61 #[.string nm, .slice (some ⟨ga, oa, none⟩) 1 ca, .slice none 0 0, .int .i64 1, .slice (some ⟨gv, 0, none⟩) 1 1] w fun e w' => e = .returned .nilIface ∧ w' = w.setCell ⟨b, 0, none⟩ (.iface 40 (.pointer p)) := by
  have CK := Lib.hid (checkPos_yes nm (some ⟨ga, oa, none⟩) 1 ca 1 1 w (by omega) (by omega) (by omega))
  have CU := Lib.hid (unpackIter_any b p v w hb)
  have z1 := hgv.cell 0 (by simp)
  clear hgv hb
  go_enter Tryz.func61, Tryz.ntmps61
  go_wp2_with fail
  refine CK.out.mono ?_
  rintro e w' ⟨rfl, rfl⟩
  go_wp2_with fail
  go_loopw [27] (fun i wr => (i = .int .i64 0 ∧ wr = w') ∨ (i = .int .i64 1 ∧ wr = w'.setCell ⟨b, 0, none⟩ (.iface 40 (.pointer p)))) (fun i _ => 3 - (intOf i).toNat)
  case atStart => exact .inl ⟨rfl, rfl⟩
  case round =>
    rcases hrel with ⟨rfl, rfl⟩ | ⟨rfl, rfl⟩
    · go_wp2_with fail
      refine CU.out.mono ?_
      rintro e wn ⟨rfl, rfl⟩
      go_wp2_with fail
      go_roundw
      case rel => simp
      case measure => simp [intOf]
    · go_wp2_with fail
      go_ret
      exact ⟨rfl, rfl⟩
end Go.Proofs.YtggpaejlmfppoaaGreat
