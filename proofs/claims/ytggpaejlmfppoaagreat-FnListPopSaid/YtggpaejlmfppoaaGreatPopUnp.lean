/- starlark.AsInt, unpackArgNoEscape for *int at scalars of all kinds; unpackPositionalArgsNoEscape at no argument, or one. -/
import Derived.Test.YtggpaejlmfppoaaGreatPopInt
import Derived.Test.YtggpaejlmfppoaaGreatCels
import Derived.Test.YtggpaejlmfppoaaGreatUnpos
import Derived.Test.YtggpaejlmfppoaaGreatMeth
namespace Go.Proofs.YtggpaejlmfppoaaGreat
open Go.RowKit Dig
set_option linter.unusedVariables false
set_option linter.unusedSimpArgs false
set_option maxRecDepth 100000

/-- an integer of 64 bits, if it is one -/
def placeOf : Cel → Option Int
  | .int i => if fits64 i then some i else none
  | _ => none
theorem assertIntBoo (b : Bool) (w : World) : (Instr.typeAssert (.iface 82 (.bool b)) 47 87 true).run Tryz.prog w = .ok (.tuple #[.agg #[.int .i64 0, .pointer none], .bool false]) w := by kernel_rfl
theorem assertIntFlt (n : Nat) (w : World) : (Instr.typeAssert (.iface 89 (.float .f64 n)) 47 87 true).run Tryz.prog w = .ok (.tuple #[.agg #[.int .i64 0, .pointer none], .bool false]) w := by kernel_rfl
theorem assertIntByt (s : ByteArray) (w : World) : (Instr.typeAssert (.iface 92 (.string s)) 47 87 true).run Tryz.prog w = .ok (.tuple #[.agg #[.int .i64 0, .pointer none], .bool false]) w := by kernel_rfl
theorem asInt_none (T : TypeId) (y p : Value) (w : World) (hta : ∀ w, (Instr.typeAssert (.iface T y) 47 87 true).run Tryz.prog w = .ok (.tuple #[.agg #[.int .i64 0, .pointer none], .bool false]) w) : Calls Tryz.prog 90 #[.iface T y, p] w (ErrPost w) := by
  have HB0 : Hid (Below w.heap.size w ((w.alloc (.cells #[.int .i64 0, .pointer none] 87)))) := (Below.refl _ _).alloc (Nat.le_refl _) _
  go_enter Tryz.func90, Tryz.ntmps90
  go_wp2_with fail
  refine (errNew_any _ _).mono ?_
  rintro e w1 ⟨b, rfl, hb1⟩
  have HB1 := Lib.hid (HB0.out.trans (hb1.mono HB0.out.size))
  clear hb1
  go_wp2_with fail
  go_ret
  exact ⟨_, rfl, HB1.out⟩
set_option maxHeartbeats 3200000 in
theorem asInt_fit (b : Nat) (i j : Int) (v : Value) (w : World) (hb : Blk w b 3 [.int .i64 j]) (hv : In w w.heap.size v i) (hl : i.natAbs < lim) (hf : fits64 i = true) :
    Calls Tryz.prog 90 #[.iface 87 v, .iface 120 (.pointer (some ⟨b, 0, none⟩))] w (IntPut b i w) := by
  have hta := assertIntOk
  have i0 := taI0
  have i1 := taI1
  have i2 := taI2
  have i3 := taI3
  have i4 := taI4
  have i5 := taI5
  have i6 := taI6
  have i7 := taI7
  have i8 := taI8
  have i9 := taI9
  have i10 := taI10
  have i11 := taI11
  have i12 := taI12
  have iy := taIyes
  obtain ⟨s, q, rfl⟩ : ∃ s q, v = .agg #[.int .i64 s, .pointer q] := by obtain ⟨s, q, h, _⟩ := hv; exact ⟨s, q, h⟩
  have hb0 : Below w.heap.size w ((w.alloc (.cells #[.int .i64 s, .pointer q] 87))) := (Below.refl _ _).alloc (Nat.le_refl _) _
  have C := Lib.hid (starInt64_any i _ _ ((hv.below hb0).more hb0.size) hl)
  rw [hf] at C
  have HB0 := Lib.hid hb0
  have HK := Lib.hid hb
  clear hb hv hl hf hb0
  go_enter Tryz.func90, Tryz.ntmps90
  go_wp2_with fail
  refine C.out.mono ?_
  rintro e w1 ⟨rfl, hb1⟩
  have HB1 := Lib.hid (HB0.out.trans (hb1.mono HB0.out.size))
  have hk := HK.out.below HB1.out HK.out.lt
  have c0 := hk.cell 0 (by simp)
  have f0 := hk.free 0
  have hlt := hk.lt
  clear hb1 hk C
  go_wp2_with fail
  go_ret
  exact ⟨rfl, _, HB1.out, rfl⟩
set_option maxHeartbeats 3200000 in
theorem asInt_far (b : Nat) (i j : Int) (v : Value) (w : World) (hb : Blk w b 3 [.int .i64 j]) (hv : In w w.heap.size v i) (hl : i.natAbs < lim) (hf : fits64 i = false) :
    Calls Tryz.prog 90 #[.iface 87 v, .iface 120 (.pointer (some ⟨b, 0, none⟩))] w (ErrPost w) := by
  have hta := assertIntOk
  have i0 := taI0
  have i1 := taI1
  have i2 := taI2
  have i3 := taI3
  have i4 := taI4
  have i5 := taI5
  have i6 := taI6
  have i7 := taI7
  have i8 := taI8
  have i9 := taI9
  have i10 := taI10
  have i11 := taI11
  have i12 := taI12
  have iy := taIyes
  obtain ⟨s, q, rfl⟩ : ∃ s q, v = .agg #[.int .i64 s, .pointer q] := by obtain ⟨s, q, h, _⟩ := hv; exact ⟨s, q, h⟩
  have hb0 : Below w.heap.size w ((w.alloc (.cells #[.int .i64 s, .pointer q] 87))) := (Below.refl _ _).alloc (Nat.le_refl _) _
  have C := Lib.hid (starInt64_any i _ _ ((hv.below hb0).more hb0.size) hl)
  rw [hf] at C
  have HB0 := Lib.hid hb0
  have HK := Lib.hid hb
  clear hb hv hl hf hb0
  go_enter Tryz.func90, Tryz.ntmps90
  go_wp2_with fail
  refine C.out.mono ?_
  rintro e w1 ⟨rfl, hb1⟩
  have HB1 := Lib.hid (HB0.out.trans (hb1.mono HB0.out.size))
  clear hb1 C
  go_wp2_with fail
  refine (errNew_any _ _).mono ?_
  rintro e w2 ⟨b2, rfl, hb2⟩
  have HB2 := Lib.hid (HB1.out.trans (hb2.mono HB1.out.size))
  clear hb2
  go_wp2_with fail
  go_ret
  exact ⟨_, rfl, HB2.out⟩
/-- AsInt at a scalar -/
theorem asInt_cel (b : Nat) (j : Int) (T : TypeId) (y : Value) (x : Cel) (w : World) (hb : Blk w b 3 [.int .i64 j]) (hv : SC w w.heap.size (.iface T y) x) (hx : x.ok) :
    Calls Tryz.prog 90 #[.iface T y, .iface 120 (.pointer (some ⟨b, 0, none⟩))] w (fun e w' => (∃ i, placeOf x = some i ∧ IntPut b i w e w') ∨ (placeOf x = none ∧ ErrPost w e w')) := by
  cases x with
  | int i =>
    obtain ⟨s, q, hq, hin⟩ := hv
    obtain ⟨rfl, rfl⟩ : T = 87 ∧ y = .agg #[.int .i64 s, .pointer q] := by simpa using hq
    cases hf : fits64 i with
    | true => exact (asInt_fit b i j _ w hb hin hx hf).mono fun e w' h => .inl ⟨i, by simp [placeOf, hf], h⟩
    | false => exact (asInt_far b i j _ w hb hin hx hf).mono fun e w' h => .inr ⟨by simp [placeOf, hf], h⟩
  | non =>
    obtain ⟨rfl, rfl⟩ : T = 81 ∧ y = .int .u8 0 := by have h : Value.iface T y = _ := hv; simpa using h
    exact (asInt_none _ _ _ w assertIntNon).mono fun e w' h => .inr ⟨rfl, h⟩
  | boo t =>
    obtain ⟨rfl, rfl⟩ : T = 82 ∧ y = .bool t := by have h : Value.iface T y = _ := hv; simpa using h
    exact (asInt_none _ _ _ w (assertIntBoo t)).mono fun e w' h => .inr ⟨rfl, h⟩
  | flt u =>
    obtain ⟨rfl, rfl⟩ : T = 89 ∧ y = .float .f64 u.toNat := by have h : Value.iface T y = _ := hv; simpa using h
    exact (asInt_none _ _ _ w (assertIntFlt _)).mono fun e w' h => .inr ⟨rfl, h⟩
  | str s =>
    obtain ⟨rfl, rfl⟩ : T = 91 ∧ y = .string s := by have h : Value.iface T y = _ := hv; simpa using h
    exact (asInt_none _ _ _ w (assertIntStr s)).mono fun e w' h => .inr ⟨rfl, h⟩
  | byt s =>
    obtain ⟨rfl, rfl⟩ : T = 92 ∧ y = .string s := by have h : Value.iface T y = _ := hv; simpa using h
    exact (asInt_none _ _ _ w (assertIntByt s)).mono fun e w' h => .inr ⟨rfl, h⟩
set_option maxHeartbeats 3200000 in
/-- what AsInt answers, unpackArgNoEscape answers -/
theorem unpackInt_as (b : Nat) (T : TypeId) (y : Value) (w : World) (P : Value → World → Prop) (h : Calls Tryz.prog 90 #[.iface T y, .iface 120 (.pointer (some ⟨b, 0, none⟩))] w (fun e w' => ∃ v, e = .returned v ∧ P v w')) :
    Calls Tryz.prog 77 #[.iface T y, .iface 120 (.pointer (some ⟨b, 0, none⟩))] w (fun e w' => ∃ v, e = .returned v ∧ P v w') := by
  have i0 := taI0
  have i1 := taI1
  have i2 := taI2
  have i3 := taI3
  have i4 := taI4
  have i5 := taI5
  have i6 := taI6
  have i7 := taI7
  have i8 := taI8
  have i9 := taI9
  have i10 := taI10
  have i11 := taI11
  have i12 := taI12
  have iy := taIyes
  have C := Lib.hid h
  clear h
  go_enter Tryz.func77, Tryz.ntmps77
  go_wp2_with (go_at_call 90; refine C.out.mono ?_; rintro e w1 ⟨v, rfl, hp⟩; have HP := Lib.hid hp; clear hp)
  go_ret
  exact ⟨_, rfl, HP.out⟩
theorem unpackInt_cel (b : Nat) (j : Int) (T : TypeId) (y : Value) (x : Cel) (w : World) (hb : Blk w b 3 [.int .i64 j]) (hv : SC w w.heap.size (.iface T y) x) (hx : x.ok) :
    Calls Tryz.prog 77 #[.iface T y, .iface 120 (.pointer (some ⟨b, 0, none⟩))] w (fun e w' => (∃ i, placeOf x = some i ∧ IntPut b i w e w') ∨ (placeOf x = none ∧ ErrPost w e w')) :=
  (unpackInt_as b T y w (fun v w' => (∃ i, placeOf x = some i ∧ IntPut b i w (.returned v) w') ∨ (placeOf x = none ∧ ErrPost w (.returned v) w')) ((asInt_cel b j T y x w hb hv hx).mono (by
    rintro e w' (⟨i, h1, h2⟩ | ⟨h1, h2⟩)
    · obtain ⟨rfl, h3⟩ := h2
      exact ⟨_, rfl, .inl ⟨i, h1, rfl, h3⟩⟩
    · obtain ⟨b', rfl, h4⟩ := h2
      exact ⟨_, rfl, .inr ⟨h1, b', rfl, h4⟩⟩))).mono (by rintro e w' ⟨v, rfl, h⟩; exact h)

/-- no argument: nothing turns -/
theorem unpackPos0_any (nm : ByteArray) (a : Option Addr) (ca gv : Nat) (w : World) :
    Calls Tryz.prog 61 #[.string nm, .slice a 0 ca, .slice none 0 0, .int .i64 0, .slice (some ⟨gv, 0, none⟩) 1 1] w fun e w' => e = .returned .nilIface ∧ w' = w := by
  have CK := Lib.hid (checkPos_yes nm a 0 ca 0 1 w (by omega) (by omega) (by omega))
  go_enter Tryz.func61, Tryz.ntmps61
  go_wp2_with fail
  refine CK.out.mono ?_
  rintro e w' ⟨rfl, rfl⟩
  go_wp2_with fail
  go_loopw [27] (fun i wr => i = .int .i64 0 ∧ wr = w') (fun i _ => 3 - (intOf i).toNat)
  case atStart => exact ⟨rfl, rfl⟩
  case round =>
    obtain ⟨rfl, rfl⟩ := hrel
    go_wp2_with fail
    go_ret
    exact ⟨rfl, rfl⟩
/-- one argument -/
theorem unpackPos1_any (nm : ByteArray) (ga oa ca gv b : Nat) (j : Int) (T : TypeId) (y : Value) (x : Cel) (w : World)
    (c1 : w.cell? ⟨ga, oa, none⟩ = some (.iface T y)) (hgv : Blk w gv 20 [.iface 120 (.pointer (some ⟨b, 0, none⟩))]) (hb : Blk w b 3 [.int .i64 j]) (hv : SC w w.heap.size (.iface T y) x) (hx : x.ok) :
    Calls Tryz.prog 61 #[.string nm, .slice (some ⟨ga, oa, none⟩) 1 ca, .slice none 0 0, .int .i64 0, .slice (some ⟨gv, 0, none⟩) 1 1] w (fun e w' => (∃ i, placeOf x = some i ∧ IntPut b i w e w') ∨ (placeOf x = none ∧ ErrPost w e w')) := by
  have CK := Lib.hid (checkPos_yes nm (some ⟨ga, oa, none⟩) 1 ca 0 1 w (by omega) (by omega) (by omega))
  have CU := Lib.hid (unpackInt_cel b j T y x w hb hv hx)
  have z1 := hgv.cell 0 (by simp)
  clear hgv hb hv hx
  go_enter Tryz.func61, Tryz.ntmps61
  go_wp2_with fail
  refine CK.out.mono ?_
  rintro e w' ⟨rfl, rfl⟩
  go_wp2_with fail
  go_loopw [27] (fun i wr => (i = .int .i64 0 ∧ wr = w') ∨ (i = .int .i64 1 ∧ Hid (∃ i, placeOf x = some i ∧ IntPut b i w' (.returned .nilIface) wr))) (fun i _ => 3 - (intOf i).toNat)
  case atStart => exact .inl ⟨rfl, rfl⟩
  case round =>
    rcases hrel with ⟨rfl, rfl⟩ | ⟨rfl, HR⟩
    · go_wp2_with fail
      refine CU.out.mono ?_
      rintro e wn (⟨i, h1, h2⟩ | ⟨h1, h2⟩)
      · obtain ⟨rfl, h3⟩ := h2
        have HH : Hid (∃ i, placeOf x = some i ∧ IntPut b i wr (.returned .nilIface) wn) := Lib.hid ⟨i, h1, rfl, h3⟩
        clear h1 h3
        go_wp2_with fail
        go_roundw
        case rel => simp; exact HH
        case measure => simp [intOf]
      · obtain ⟨b', rfl, h3⟩ := h2
        have HP := Lib.hid h1
        have HB := Lib.hid h3
        clear h1 h3
        go_wp2_with fail
        refine (errNew_any _ _).mono ?_
        rintro e w2 ⟨b2, rfl, hb2⟩
        have HB2 := Lib.hid (HB.out.trans (hb2.mono HB.out.size))
        clear hb2
        go_wp2_with fail
        go_ret
        exact .inr ⟨HP.out, _, rfl, HB2.out⟩
    · go_wp2_with fail
      go_ret
      exact .inl HR.out
end Go.Proofs.YtggpaejlmfppoaaGreat
