/- The places that two arguments name in a text of n bytes. No program in sight. starlark.unpackPositionalArgsNoEscape at a text and two values. starlark.asIndex and starlark.indices at scalars. starlark.zzIndex: the first place of a text in another one. What the library's contracts ask of the program: its functions' and types' numbers (printed by a program, by their names). starlark.string_find_impl and the four methods. The methods find, rfind, index, rindex and their doors; impl.ofNumber (printed by genfzz.py). -/
import Derived.Test.YtoggalnjjhcmkaaGreatScal
import Derived.Test.YtoggalnjjhcmkaaGreatMFindA
import Derived.Test.YtoggalnjjhcmkaaGreatUnpos
import Derived.Test.YtoggalnjjhcmkaaGreatMeth
import Derived.Test.YtoggalnjjhcmkaaGreatMem
import Derived.Test.YtoggalnjjhcmkaaGreatProg
import Derived.WalkSpells
import Derived.Shelf.Strings.LastIndexAll
import Derived.Test.YtoggalnjjhcmkaaGreatRange
import Derived.Laws.DeepStrings4
namespace Go.Proofs.YtoggalnjjhcmkaaGreat
set_option linter.unusedVariables false
set_option linter.unusedSimpArgs false
open Dig

/-- what is drawn as a place: None, a text, or an integer of int32 -/
def Pl : Scal → Prop
  | .non => True
  | .int i => -2147483648 ≤ i ∧ i ≤ 2147483647
  | .str s => s.size ≤ 4096
/-- the place, ahead of the clamp; d where it is None -/
def rawEdge (n : Nat) (d : Int) : Scal → Option Int
  | .non => some d
  | .int i => some (if i < 0 then i + n else i)
  | .str _ => none
def clampE (n : Nat) (i : Int) : Nat := (max 0 (min i n)).toNat
theorem clampE_le (n : Nat) (i : Int) : clampE n i ≤ n := by unfold clampE; omega
/-- the two places -/
def edges (n : Nat) (lo hi : Scal) : Option (Nat × Nat) :=
  match rawEdge n 0 lo, rawEdge n n hi with
  | some a, some b => some (clampE n a, clampE n b)
  | _, _ => none
/-- what a search answers -/
def foundAt (last : Bool) (s p : ByteArray) (a b : Nat) : Int :=
  if last then lastIn (occB s p) a (max a b + 1 - p.size - a) else firstIn (occB s p) a (max a b + 1 - p.size - a)
theorem foundAt_bd (last : Bool) (s p : ByteArray) (a b : Nat) (ha : a ≤ s.size) (hb : b ≤ s.size) : foundAt last s p a b = -1 ∨ (0 ≤ foundAt last s p a b ∧ foundAt last s p a b ≤ s.size) := by
  unfold foundAt
  cases last with
  | false =>
    rw [if_neg (by simp)]
    rcases firstIn_bd (occB s p) a (max a b + 1 - p.size - a) with h | h
    · exact .inl h
    · right; omega
  | true =>
    rw [if_pos rfl]
    rcases lastIn_bd (occB s p) a (max a b + 1 - p.size - a) with h | h
    · exact .inl h
    · right; omega
end Go.Proofs.YtoggalnjjhcmkaaGreat

namespace Go.Proofs.YtoggalnjjhcmkaaGreat
open Go.RowKit Dig
set_option linter.unusedVariables false
set_option linter.unusedSimpArgs false
set_option maxRecDepth 100000

theorem tsV (p : Option Addr) (w : World) : (Instr.typeAssert (.iface 193 (.pointer p)) 20 193 true).run Tryz.prog w = .ok (.tuple #[.pointer p, .bool true]) w := by kernel_rfl
theorem tsS0 (p : Option Addr) (w : World) : (Instr.typeAssert (.iface 192 (.pointer p)) 20 193 true).run Tryz.prog w = .ok (.tuple #[.pointer none, .bool false]) w := by kernel_rfl
theorem tsS (p : Option Addr) (w : World) : (Instr.typeAssert (.iface 192 (.pointer p)) 20 192 true).run Tryz.prog w = .ok (.tuple #[.pointer p, .bool true]) w := by kernel_rfl
theorem assertStrOk (s : ByteArray) (w : World) : (Instr.typeAssert (.iface 96 (.string s)) 77 96 true).run Tryz.prog w = .ok (.tuple #[.string s, .bool true]) w := by kernel_rfl
theorem asString_any (s : ByteArray) (w : World) : Calls Tryz.prog 149 #[.iface 96 (.string s)] w fun e w' => e = .returned (.tuple #[.string s, .bool true]) ∧ w' = w := by
  have ha := assertStrOk
  go_enter Tryz.func149, Tryz.ntmps149
  go_wp2_with fail
  go_ret2
  exact ⟨rfl, rfl⟩
theorem unpackVal_any (b : Nat) (T : TypeId) (y : Value) (old : Value) (w : World) (hb : Blk w b 77 [old]) :
    Calls Tryz.prog 129 #[.iface T y, .iface 193 (.pointer (some ⟨b, 0, none⟩))] w fun e w' => e = .returned .nilIface ∧ w' = w.setCell ⟨b, 0, none⟩ (.iface T y) := by
  have ha := tsV
  have c0 := hb.cell 0 (by simp)
  have f0 := hb.free 0
  have l0 := hb.lt
  clear hb
  go_enter Tryz.func129, Tryz.ntmps129
  go_wp2_with fail
  go_ret
  exact ⟨rfl, rfl⟩
theorem unpackStr_any (b : Nat) (s : ByteArray) (old : Value) (w : World) (hb : Blk w b 9 [old]) :
    Calls Tryz.prog 129 #[.iface 96 (.string s), .iface 192 (.pointer (some ⟨b, 0, none⟩))] w fun e w' => e = .returned .nilIface ∧ w' = w.setCell ⟨b, 0, none⟩ (.string s) := by
  have ha := tsS0
  have hs := tsS
  have c0 := hb.cell 0 (by simp)
  have f0 := hb.free 0
  have l0 := hb.lt
  have C := Lib.hid (asString_any s w)
  clear hb
  go_enter Tryz.func129, Tryz.ntmps129
  go_wp2_with fail
  refine C.out.mono ?_
  rintro e w1 ⟨rfl, rfl⟩
  go_wp2_with fail
  go_ret
  exact ⟨rfl, rfl⟩
/-- the worlds ahead of the rounds -/
def upW (w : World) (p1 p2 p3 : Nat) (v1 v2 v3 : Value) : Nat → World
  | 0 => w
  | 1 => w.setCell ⟨p1, 0, none⟩ v1
  | 2 => (w.setCell ⟨p1, 0, none⟩ v1).setCell ⟨p2, 0, none⟩ v2
  | _ => ((w.setCell ⟨p1, 0, none⟩ v1).setCell ⟨p2, 0, none⟩ v2).setCell ⟨p3, 0, none⟩ v3
def UpArgs (w : World) (ga oa gv : Nat) (v1 v2 v3 : Value) (p1 p2 p3 : Nat) : Prop :=
  w.cell? ⟨ga, oa, none⟩ = some v1 ∧ w.cell? ⟨ga, oa + 1, none⟩ = some v2 ∧ w.cell? ⟨ga, oa + 2, none⟩ = some v3 ∧
  Blk w gv 20 [.iface 192 (.pointer (some ⟨p1, 0, none⟩)), .iface 193 (.pointer (some ⟨p2, 0, none⟩)), .iface 193 (.pointer (some ⟨p3, 0, none⟩))]
theorem UpArgs.set {w : World} {ga oa gv : Nat} {v1 v2 v3 : Value} {p1 p2 p3 : Nat} (h : UpArgs w ga oa gv v1 v2 v3 p1 p2 p3) (p : Nat) (h1 : ga ≠ p) (h2 : gv ≠ p) (u : Value) : UpArgs (w.setCell ⟨p, 0, none⟩ u) ga oa gv v1 v2 v3 p1 p2 p3 := by
  obtain ⟨a, b, c, d⟩ := h
  have hk : ∀ o, (w.setCell ⟨p, 0, none⟩ u).cell? ⟨ga, o, none⟩ = w.cell? ⟨ga, o, none⟩ := fun o => by
    simp [World.cell?, Below.heap_setCell w ⟨p, 0, none⟩ u ga h1]
  exact ⟨by rw [hk]; exact a, by rw [hk]; exact b, by rw [hk]; exact c, d.far (p := ⟨p, 0, none⟩) h2 u⟩
theorem UpArgs.cells {w : World} {ga oa gv : Nat} {v1 v2 v3 : Value} {p1 p2 p3 : Nat} (h : UpArgs w ga oa gv v1 v2 v3 p1 p2 p3) :
    (w.cell? ⟨ga, oa, none⟩ = some v1 ∧ w.cell? ⟨ga, oa + 1, none⟩ = some v2 ∧ w.cell? ⟨ga, oa + 2, none⟩ = some v3) ∧
    w.cell? ⟨gv, 0, none⟩ = some (.iface 192 (.pointer (some ⟨p1, 0, none⟩))) ∧ w.cell? ⟨gv, 1, none⟩ = some (.iface 193 (.pointer (some ⟨p2, 0, none⟩))) ∧ w.cell? ⟨gv, 2, none⟩ = some (.iface 193 (.pointer (some ⟨p3, 0, none⟩))) :=
  ⟨⟨h.1, h.2.1, h.2.2.1⟩, h.2.2.2.cell 0 (by simp), h.2.2.2.cell 1 (by simp), h.2.2.2.cell 2 (by simp)⟩
set_option maxHeartbeats 3200000 in
theorem unpack3_any (nm : ByteArray) (ga oa ca gv p1 p2 p3 : Nat) (s : ByteArray) (T2 T3 : TypeId) (y2 y3 o1 o2 o3 : Value) (w : World)
    (ha : UpArgs w ga oa gv (.iface 96 (.string s)) (.iface T2 y2) (.iface T3 y3) p1 p2 p3) (h1 : Blk w p1 9 [o1]) (h2 : Blk w p2 77 [o2]) (h3 : Blk w p3 77 [o3])
    (hg : ga ≠ p1 ∧ ga ≠ p2 ∧ ga ≠ p3) (hv : gv ≠ p1 ∧ gv ≠ p2 ∧ gv ≠ p3) (h12 : p1 ≠ p2) (h13 : p1 ≠ p3) (h23 : p2 ≠ p3) :
    Calls Tryz.prog 94 #[.string nm, .slice (some ⟨ga, oa, none⟩) 3 ca, .slice none 0 0, .int .i64 1, .slice (some ⟨gv, 0, none⟩) 3 3] w fun e w' => e = .returned .nilIface ∧ w' = upW w p1 p2 p3 (.string s) (.iface T2 y2) (.iface T3 y3) 3 := by
  have a0 := ha
  have a1 := ha.set p1 hg.1 hv.1 (.string s)
  have a2 := a1.set p2 hg.2.1 hv.2.1 (.iface T2 y2)
  have C0 := Lib.hid (unpackStr_any p1 s o1 w h1)
  have C1 := Lib.hid (unpackVal_any p2 T2 y2 o2 (upW w p1 p2 p3 (.string s) (.iface T2 y2) (.iface T3 y3) 1) (h2.far (p := ⟨p1, 0, none⟩) (Ne.symm h12) _))
  have C2 := Lib.hid (unpackVal_any p3 T3 y3 o3 (upW w p1 p2 p3 (.string s) (.iface T2 y2) (.iface T3 y3) 2) ((h3.far (p := ⟨p1, 0, none⟩) (Ne.symm h13) _).far (p := ⟨p2, 0, none⟩) (Ne.symm h23) _))
  have CK := Lib.hid (checkPos_yes nm (some ⟨ga, oa, none⟩) 3 ca 1 3 w (by omega) (by omega) (by omega))
  have A0 := Lib.hid a0.cells; have A1 := Lib.hid a1.cells; have A2 := Lib.hid a2.cells
  obtain ⟨W1, hW1⟩ : ∃ W1, W1 = upW w p1 p2 p3 (.string s) (.iface T2 y2) (.iface T3 y3) 1 := ⟨_, rfl⟩
  obtain ⟨W2, hW2⟩ : ∃ W2, W2 = upW w p1 p2 p3 (.string s) (.iface T2 y2) (.iface T3 y3) 2 := ⟨_, rfl⟩
  obtain ⟨W3, hW3⟩ : ∃ W3, W3 = upW w p1 p2 p3 (.string s) (.iface T2 y2) (.iface T3 y3) 3 := ⟨_, rfl⟩
  have E1 : w.setCell ⟨p1, 0, none⟩ (.string s) = W1 := hW1.symm
  have E2 : W1.setCell ⟨p2, 0, none⟩ (.iface T2 y2) = W2 := by rw [hW1, hW2]; rfl
  have E3 : W2.setCell ⟨p3, 0, none⟩ (.iface T3 y3) = W3 := by rw [hW2, hW3]; rfl
  rw [← hW1] at C1; rw [← hW2] at C2; rw [← hW3]
  rw [E1] at C0 A1; rw [E2] at C1; rw [E3] at C2
  rw [E1, E2] at A2
  clear ha a0 a1 a2 h1 h2 h3 hg hv h12 h13 h23 hW1 hW2 hW3 E1 E2 E3
  go_enter Tryz.func94, Tryz.ntmps94
  go_wp2_with fail
  refine CK.out.mono ?_
  rintro e w' ⟨rfl, rfl⟩
  go_wp2_with fail
  go_loopw [27] (fun i wr => (i = .int .i64 0 ∧ wr = w') ∨ (i = .int .i64 1 ∧ wr = W1) ∨ (i = .int .i64 2 ∧ wr = W2) ∨ (i = .int .i64 3 ∧ wr = W3)) (fun i _ => 3 - (intOf i).toNat)
  case atStart => exact .inl ⟨rfl, rfl⟩
  case round =>
    rcases hrel with ⟨rfl, rfl⟩ | ⟨rfl, rfl⟩ | ⟨rfl, rfl⟩ | ⟨rfl, rfl⟩
    · obtain ⟨⟨x1, x2, x3⟩, z1, z2, z3⟩ := A0.out
      go_wp2_with fail
      refine C0.out.mono ?_
      rintro e wn ⟨rfl, rfl⟩
      go_wp2_with fail
      go_roundw
      case rel => simp
      case measure => simp [intOf]
    · obtain ⟨⟨x1, x2, x3⟩, z1, z2, z3⟩ := A1.out
      go_wp2_with fail
      refine C1.out.mono ?_
      rintro e wn ⟨rfl, rfl⟩
      go_wp2_with fail
      go_roundw
      case rel => simp
      case measure => simp [intOf]
    · obtain ⟨⟨x1, x2, x3⟩, z1, z2, z3⟩ := A2.out
      go_wp2_with fail
      refine C2.out.mono ?_
      rintro e wn ⟨rfl, rfl⟩
      go_wp2_with fail
      go_roundw
      case rel => simp
      case measure => simp [intOf]
    · go_wp2_with fail
      go_ret
      exact ⟨rfl, rfl⟩
end Go.Proofs.YtoggalnjjhcmkaaGreat

namespace Go.Proofs.YtoggalnjjhcmkaaGreat
open Go.RowKit Dig
set_option linter.unusedVariables false
set_option linter.unusedSimpArgs false
set_option maxRecDepth 100000

theorem assertIntStr0 (s : ByteArray) (w : World) : (Instr.typeAssert (.iface 96 (.string s)) 77 120 true).run Tryz.prog w = .ok (.tuple #[.agg #[.int .i64 0, .pointer none], .bool false]) w := by kernel_rfl
theorem asInt32_str (s : ByteArray) (w : World) : Calls Tryz.prog 171 #[.iface 96 (.string s)] w fun e w' => Below w.heap.size w w' ∧ ∃ b, e = .returned (.tuple #[.int .i64 0, .iface 229 (.pointer (some ⟨b, 0, none⟩))]) := by
  have hta := assertIntStr0 s
  have HB : Hid (Below w.heap.size w ((w.alloc (.cells #[.int .i64 0, .pointer none] 120)))) := (Below.refl _ _).alloc (Nat.le_refl _) _
  go_enter Tryz.func171, Tryz.ntmps171
  go_wp2_with fail
  refine (errNew_any _ _).mono ?_
  rintro e w2 ⟨q, rfl, hb2⟩
  have HB2 := Lib.hid (HB.out.trans (hb2.mono HB.out.size))
  clear hb2
  go_wp2_with fail
  go_ret2
  exact ⟨HB2.out, _, rfl⟩
theorem neqNN (w : World) : (binOp .neq 77 (.iface 114 (.int .u8 0)) (.iface 114 (.int .u8 0))).run Tryz.prog w = .ok (.bool false) w := by kernel_rfl
theorem neqSN (s : ByteArray) (w : World) : (binOp .neq 77 (.iface 96 (.string s)) (.iface 114 (.int .u8 0))).run Tryz.prog w = .ok (.bool true) w := by kernel_rfl
theorem neqIN (v : Value) (w : World) : (binOp .neq 77 (.iface 120 v) (.iface 114 (.int .u8 0))).run Tryz.prog w = .ok (.bool true) w := by kernel_rfl
/-- what asIndex does to its variable -/
def AxPost (n : Nat) (b : Nat) (d : Int) (x : Scal) (w : World) (e : Ending) (w' : World) : Prop :=
  Up (some b) w w' ∧ ((∃ r, rawEdge n d x = some r ∧ e = .returned .nilIface ∧ Blk w' b 3 [.int .i64 r]) ∨ (rawEdge n d x = none ∧ ∃ q k, e = .returned (.iface 229 (.pointer (some ⟨q, 0, none⟩))) ∧ Blk w' b 3 [.int .i64 k]))
set_option maxHeartbeats 1600000 in
theorem asIndex_any (n : Nat) (b : Nat) (d : Int) (T : TypeId) (y : Value) (x : Scal) (w : World) (hn : n ≤ 100) (hx : SV w w.heap.size (.iface T y) x) (hp : Pl x) (hb : Blk w b 3 [.int .i64 d]) :
    Calls Tryz.prog 157 #[.iface T y, .int .i64 (n : Int), .pointer (some ⟨b, 0, none⟩)] w (AxPost n b d x w) := by
  have q1 := neqNN
  have q2 := neqSN
  have q3 := neqIN
  cases x with
  | non =>
    have e : Value.iface T y = .iface 114 (.int .u8 0) := hx
    injection e with e1 e2
    subst e1 e2
    have HB := Lib.hid hb
    clear hb hx hp
    go_enter Tryz.func157, Tryz.ntmps157
    go_wp2_with fail
    go_ret
    exact ⟨Up.refl _ _, .inl ⟨d, rfl, rfl, HB.out⟩⟩
  | str s =>
    have e : Value.iface T y = .iface 96 (.string s) := hx
    injection e with e1 e2
    subst e1 e2
    have C : Hid (Calls Tryz.prog 171 #[.iface 96 (.string s)] w fun e w' => (∃ q, e = .returned (.tuple #[.int .i64 0, .iface 229 (.pointer (some ⟨q, 0, none⟩))])) ∧ Up (some b) w w' ∧ Blk w' b 3 [.int .i64 d]) := Lib.hid ((asInt32_str s w).mono (by
      rintro e w' ⟨h1, q, rfl⟩
      exact ⟨⟨q, rfl⟩, Up.of_below h1, hb.below h1 hb.lt⟩))
    clear hb hx hp
    go_enter Tryz.func157, Tryz.ntmps157
    go_wp2_with fail
    refine C.out.mono ?_
    rintro e w1 ⟨⟨q, rfl⟩, hu, hb⟩
    have c0 := hb.cell 0 (by simp)
    have f0 := hb.free 0
    have FIN := Lib.hid (And.intro (hu.set 0 (.int .i64 0)) (hb.set 0 (.int .i64 0)))
    clear C hb hu
    go_wp2_with fail
    go_ret
    exact ⟨FIN.out.1, .inr ⟨rfl, q, 0, rfl, FIN.out.2⟩⟩
  | int i =>
    obtain ⟨s0, q0, e, hin⟩ : ∃ s q, Value.iface T y = .iface 120 (.agg #[.int .i64 s, .pointer q]) ∧ In w w.heap.size (.agg #[.int .i64 s, .pointer q]) i := hx
    injection e with e1 e2
    subst e1 e2
    obtain ⟨hp1, hp2⟩ : -2147483648 ≤ i ∧ i ≤ 2147483647 := hp
    have C : Hid (Calls Tryz.prog 171 #[.iface 120 (.agg #[.int .i64 s0, .pointer q0])] w fun e w' => e = .returned (.tuple #[.int .i64 i, .nilIface]) ∧ Up (some b) w w' ∧ Blk w' b 3 [.int .i64 d]) := Lib.hid ((asInt32_any _ i w hin).mono (by
      rintro e w' ⟨h1, ⟨_, _, rfl⟩ | ⟨h2, _⟩⟩
      · exact ⟨rfl, Up.of_below h1, hb.below h1 hb.lt⟩
      · exact absurd ⟨hp1, hp2⟩ h2))
    clear hb hin
    by_cases hneg : i < 0
    · go_enter Tryz.func157, Tryz.ntmps157
      go_wp2_with fail
      refine C.out.mono ?_
      rintro e w1 ⟨rfl, hu, hb⟩
      have c0 := hb.cell 0 (by simp)
      have f0 := hb.free 0
      have l0 := hb.lt
      have FIN := Lib.hid (And.intro ((hu.set 0 (.int .i64 i)).set 0 (.int .i64 (i + n))) ((hb.set 0 (.int .i64 i)).set 0 (.int .i64 (i + n))))
      have hw : IntKind.i64.wrap (i + (n : Int)) = i + n := by rw [IntKind.wrap_i64]; omega
      clear C hb hu
      go_wp2_with fail
      go_ret
      exact ⟨FIN.out.1, .inl ⟨i + n, by simp [rawEdge, hneg], rfl, FIN.out.2⟩⟩
    · go_enter Tryz.func157, Tryz.ntmps157
      go_wp2_with fail
      refine C.out.mono ?_
      rintro e w1 ⟨rfl, hu, hb⟩
      have c0 := hb.cell 0 (by simp)
      have f0 := hb.free 0
      have l0 := hb.lt
      have FIN := Lib.hid (And.intro (hu.set 0 (.int .i64 i)) (hb.set 0 (.int .i64 i)))
      clear C hb hu
      go_wp2_with fail
      go_ret
      exact ⟨FIN.out.1, .inl ⟨i, by unfold rawEdge; simp only; rw [if_neg (by omega)], rfl, FIN.out.2⟩⟩
/-- the two places, or an error -/
def IxPost (n : Nat) (x y : Scal) (w : World) (e : Ending) (w' : World) : Prop :=
  Below w.heap.size w w' ∧ ((∃ a b : Nat, edges n x y = some (a, b) ∧ a ≤ n ∧ b ≤ n ∧ e = .returned (.tuple #[.int .i64 (a : Int), .int .i64 (b : Int), .nilIface])) ∨ (edges n x y = none ∧ ∃ q, e = .returned (.tuple #[.int .i64 0, .int .i64 0, .iface 229 (.pointer (some ⟨q, 0, none⟩))])))
theorem up_below2 {g : Nat} {w W W' : World} (h : Below w.heap.size w W) (hg : w.heap.size ≤ g) (hu : Up (some g) W W') : Below w.heap.size w W' := h.trans (hu.below h.size (fun k hk => by injection hk with hk; omega))
theorem clamp_lo (n : Nat) (r : Int) (h : r < 0) : ((clampE n r : Nat) : Int) = 0 := by unfold clampE; omega
theorem clamp_hi (n : Nat) (r : Int) (h : (n : Int) < r) : ((clampE n r : Nat) : Int) = n := by unfold clampE; omega
theorem clamp_in (n : Nat) (r : Int) (h : 0 ≤ r) (h2 : r ≤ n) : ((clampE n r : Nat) : Int) = r := by unfold clampE; omega
set_option maxHeartbeats 6400000 in
theorem indices_any (n : Nat) (T1 T2 : TypeId) (y1 y2 : Value) (x y : Scal) (w : World) (hn : n ≤ 100) (hx : SV w w.heap.size (.iface T1 y1) x) (hy : SV w w.heap.size (.iface T2 y2) y) (hp : Pl x) (hq : Pl y) :
    Calls Tryz.prog 140 #[.iface T1 y1, .iface T2 y2, .int .i64 (n : Int)] w (IxPost n x y w) := by
  obtain ⟨g, hg⟩ : ∃ g, g = w.heap.size := ⟨_, rfl⟩
  obtain ⟨W0, hW0⟩ : ∃ W0, W0 = ((w.alloc (.cells #[.int .i64 0] 3)).alloc (.cells #[.int .i64 0] 3)) := ⟨_, rfl⟩
  have k0 : Blk (w.alloc (.cells #[.int .i64 0] 3)) w.heap.size 3 [.int .i64 0] := Blk.new w _ [.int .i64 0]
  have k1 : Blk ((w.alloc (.cells #[.int .i64 0] 3)).alloc (.cells #[.int .i64 0] 3)) (w.heap.size + 1) 3 [.int .i64 0] := by
    have := Blk.new (w.alloc (.cells #[.int .i64 0] 3)) 3 [.int .i64 0]
    simpa using this
  have hA : Blk W0 g 3 [.int .i64 0] := by rw [hW0, hg]; exact k0.alloc _
  have hB : Blk W0 (g + 1) 3 [.int .i64 0] := by rw [hW0, hg]; exact k1
  have hb0 : Below w.heap.size w W0 := by rw [hW0]; exact ((Below.refl _ _).alloc (Nat.le_refl _) _).alloc (by simp) _
  have C1 : Hid (Calls Tryz.prog 157 #[.iface T1 y1, .int .i64 (n : Int), .pointer (some ⟨g, 0, none⟩)] W0 (AxPost n g 0 x W0)) := Lib.hid (asIndex_any n g 0 T1 y1 x W0 hn ((hx.below hb0).more hb0.size) hp hA)
  have C2 : Hid (∀ W, Below w.heap.size w W → Blk W (g + 1) 3 [.int .i64 n] → Calls Tryz.prog 157 #[.iface T2 y2, .int .i64 (n : Int), .pointer (some ⟨g + 1, 0, none⟩)] W (AxPost n (g + 1) n y W)) := Lib.hid (fun W h hb => asIndex_any n (g + 1) n T2 y2 y W hn ((hy.below h).more h.size) hq hb)
  have EN : Hid (∀ s W, Calls Tryz.prog 130 #[.string s] W (fun e w' => ∃ b, e = .returned (.iface 229 (.pointer (some ⟨b, 0, none⟩))) ∧ Below W.heap.size W w')) := Lib.hid (fun s W => errNew_any s W)
  have HB0 := Lib.hid hb0; have HBB := Lib.hid hB; have HG := Lib.hid hg
  have hgp : g ≠ g + 1 := by omega
  clear hA hB hb0 hx hy hp hq k0 k1
  unfold AxPost at C1 C2
  go_enter Tryz.func140, Tryz.ntmps140
  go_wp2_with fail
  rw [← hW0, ← hg]
  clear hW0 hg
  refine C1.out.mono ?_
  rintro e w1 ⟨hu1, ⟨r1, hr1, rfl, hb1⟩ | ⟨hr1, q, k, rfl, hb1⟩⟩
  · have HR1 := Lib.hid hr1
    have HW1 : Hid (Below w.heap.size w w1) := Lib.hid (up_below2 HB0.out (by rw [HG.out]; exact Nat.le_refl _) hu1)
    have hB1 : Blk w1 (g + 1) 3 [.int .i64 0] := HBB.out.up hu1 (by intro e; injection e with e; omega)
    have cg := hb1.cell 0 (by simp)
    have fg := hb1.free 0
    have lg := hb1.lt
    have ch := hB1.cell 0 (by simp)
    have fh := hB1.free 0
    have lh := hB1.lt
    have K1 := Lib.hid hb1; have K2 := Lib.hid hB1
    clear hr1 hu1 hb1 hB1 C1 HB0 HBB
    rcases Int.lt_or_le r1 0 with ha | ha
    · have HA1 : Hid (((clampE n r1 : Nat) : Int) = 0) := Lib.hid (clamp_lo n r1 ha)
      have HW2 : Hid (Below w.heap.size w ((w1.setCell ⟨g, 0, none⟩ (.int .i64 (0))).setCell ⟨g + 1, 0, none⟩ (.int .i64 (n : Int)))) := Lib.hid ((HW1.out.setCell (by rw [HG.out]; exact Nat.le_refl _) _).setCell (by rw [HG.out]; simp) _)
      have k1 : Blk ((w1.setCell ⟨g, 0, none⟩ (.int .i64 (0))).setCell ⟨g + 1, 0, none⟩ (.int .i64 (n : Int))) g 3 [.int .i64 (0)] := (K1.out.set 0 (.int .i64 (0))).far (p := ⟨g + 1, 0, none⟩) hgp _
      have k2 : Blk ((w1.setCell ⟨g, 0, none⟩ (.int .i64 (0))).setCell ⟨g + 1, 0, none⟩ (.int .i64 (n : Int))) (g + 1) 3 [.int .i64 n] := (K2.out.far (p := ⟨g, 0, none⟩) (Ne.symm hgp) _).set 0 (.int .i64 (n : Int))
      have C3 := Lib.hid (C2.out _ HW2.out k2)
      have KK := Lib.hid k1
      clear k1 k2 C2 K1 K2 HW1
      go_wp2_with fail
      refine C3.out.mono ?_
      rintro e w2 ⟨hu2, ⟨r2, hr2, rfl, hb2⟩ | ⟨hr2, q, k, rfl, hb2⟩⟩
      · have HR2 := Lib.hid hr2
        have HW3 : Hid (Below w.heap.size w w2) := Lib.hid (up_below2 HW2.out (by rw [HG.out]; simp) hu2)
        have hk1 := KK.out.up hu2 (by intro e; injection e with e; omega)
        clear cg fg lg ch fh lh
        have cg := hk1.cell 0 (by simp)
        have fg := hk1.free 0
        have lg := hk1.lt
        have ch := hb2.cell 0 (by simp)
        have fh := hb2.free 0
        have lh := hb2.lt
        clear hr2 hu2 hb2 hk1 C3 HW2 KK EN
        rcases Int.lt_or_le r2 0 with hc | hc
        · have HA2 : Hid (((clampE n r2 : Nat) : Int) = 0) := Lib.hid (clamp_lo n r2 hc)
          go_wp2_with fail
          refine bodyPost_ret (v := .tuple #[.int .i64 (0), .int .i64 (0), .nilIface]) (by simp [results, Tryz.results140, go_sem, cg, ch, lg, lh]) rfl ?_
          refine ⟨(((HW3.out.setCell (by rw [HG.out]; simp) _).setCell (by rw [HG.out]; exact Nat.le_refl _) _).setCell (by rw [HG.out]; simp) _), .inl ⟨clampE n r1, clampE n r2, by unfold edges; rw [HR1.out, HR2.out], clampE_le _ _, clampE_le _ _, ?_⟩⟩
          rw [HA1.out, HA2.out]
        · rcases Int.lt_or_le (n : Int) r2 with hd | hd
          · have HA2 : Hid (((clampE n r2 : Nat) : Int) = (n : Int)) := Lib.hid (clamp_hi n r2 hd)
            go_wp2_with fail
            refine bodyPost_ret (v := .tuple #[.int .i64 (0), .int .i64 ((n : Int)), .nilIface]) (by simp [results, Tryz.results140, go_sem, cg, ch, lg, lh]) rfl ?_
            refine ⟨(((HW3.out.setCell (by rw [HG.out]; simp) _).setCell (by rw [HG.out]; exact Nat.le_refl _) _).setCell (by rw [HG.out]; simp) _), .inl ⟨clampE n r1, clampE n r2, by unfold edges; rw [HR1.out, HR2.out], clampE_le _ _, clampE_le _ _, ?_⟩⟩
            rw [HA1.out, HA2.out]
          · have HA2 : Hid (((clampE n r2 : Nat) : Int) = r2) := Lib.hid (clamp_in n r2 hc hd)
            go_wp2_with fail
            refine bodyPost_ret (v := .tuple #[.int .i64 (0), .int .i64 (r2), .nilIface]) (by simp [results, Tryz.results140, go_sem, cg, ch, lg, lh]) rfl ?_
            refine ⟨((HW3.out.setCell (by rw [HG.out]; exact Nat.le_refl _) _).setCell (by rw [HG.out]; simp) _), .inl ⟨clampE n r1, clampE n r2, by unfold edges; rw [HR1.out, HR2.out], clampE_le _ _, clampE_le _ _, ?_⟩⟩
            rw [HA1.out, HA2.out]
      · have HR2 : Hid (edges n x y = none) := Lib.hid (by unfold edges; rw [HR1.out, hr2])
        have HW3 : Hid (Below w.heap.size w w2) := Lib.hid (up_below2 HW2.out (by rw [HG.out]; simp) hu2)
        have K1 := Lib.hid (KK.out.up hu2 (by intro e; injection e with e; omega))
        have K2 := Lib.hid hb2
        clear hr2 hu2 hb2 C3 HW2 KK cg fg lg ch fh lh
        go_wp2_with fail
        refine (EN.out _ _).mono ?_
        rintro e w3 ⟨q2, rfl, hb3⟩
        have hk1 := K1.out.below hb3 K1.out.lt
        have hk2 := K2.out.below hb3 K2.out.lt
        have cg := hk1.cell 0 (by simp)
        have fg := hk1.free 0
        have lg := hk1.lt
        have ch := hk2.cell 0 (by simp)
        have fh := hk2.free 0
        have lh := hk2.lt
        have HW4 := Lib.hid (HW3.out.trans (hb3.mono HW3.out.size))
        clear hb3 hk1 hk2 EN K1 K2
        go_wp2_with fail
        refine bodyPost_ret (v := .tuple #[.int .i64 0, .int .i64 0, .iface 229 (.pointer (some ⟨q2, 0, none⟩))]) (by simp [results, Tryz.results140, go_sem, cg, ch, lg, lh]) rfl ?_
        exact ⟨(HW4.out.setCell (by rw [HG.out]; exact Nat.le_refl _) _).setCell (by rw [HG.out]; simp) _, .inr ⟨HR2.out, q2, rfl⟩⟩
    · rcases Int.lt_or_le (n : Int) r1 with hb | hb
      · have HA1 : Hid (((clampE n r1 : Nat) : Int) = (n : Int)) := Lib.hid (clamp_hi n r1 hb)
        have HW2 : Hid (Below w.heap.size w ((w1.setCell ⟨g, 0, none⟩ (.int .i64 ((n : Int)))).setCell ⟨g + 1, 0, none⟩ (.int .i64 (n : Int)))) := Lib.hid ((HW1.out.setCell (by rw [HG.out]; exact Nat.le_refl _) _).setCell (by rw [HG.out]; simp) _)
        have k1 : Blk ((w1.setCell ⟨g, 0, none⟩ (.int .i64 ((n : Int)))).setCell ⟨g + 1, 0, none⟩ (.int .i64 (n : Int))) g 3 [.int .i64 ((n : Int))] := (K1.out.set 0 (.int .i64 ((n : Int)))).far (p := ⟨g + 1, 0, none⟩) hgp _
        have k2 : Blk ((w1.setCell ⟨g, 0, none⟩ (.int .i64 ((n : Int)))).setCell ⟨g + 1, 0, none⟩ (.int .i64 (n : Int))) (g + 1) 3 [.int .i64 n] := (K2.out.far (p := ⟨g, 0, none⟩) (Ne.symm hgp) _).set 0 (.int .i64 (n : Int))
        have C3 := Lib.hid (C2.out _ HW2.out k2)
        have KK := Lib.hid k1
        clear k1 k2 C2 K1 K2 HW1
        go_wp2_with fail
        refine C3.out.mono ?_
        rintro e w2 ⟨hu2, ⟨r2, hr2, rfl, hb2⟩ | ⟨hr2, q, k, rfl, hb2⟩⟩
        · have HR2 := Lib.hid hr2
          have HW3 : Hid (Below w.heap.size w w2) := Lib.hid (up_below2 HW2.out (by rw [HG.out]; simp) hu2)
          have hk1 := KK.out.up hu2 (by intro e; injection e with e; omega)
          clear cg fg lg ch fh lh
          have cg := hk1.cell 0 (by simp)
          have fg := hk1.free 0
          have lg := hk1.lt
          have ch := hb2.cell 0 (by simp)
          have fh := hb2.free 0
          have lh := hb2.lt
          clear hr2 hu2 hb2 hk1 C3 HW2 KK EN
          rcases Int.lt_or_le r2 0 with hc | hc
          · have HA2 : Hid (((clampE n r2 : Nat) : Int) = 0) := Lib.hid (clamp_lo n r2 hc)
            go_wp2_with fail
            refine bodyPost_ret (v := .tuple #[.int .i64 ((n : Int)), .int .i64 (0), .nilIface]) (by simp [results, Tryz.results140, go_sem, cg, ch, lg, lh]) rfl ?_
            refine ⟨(((HW3.out.setCell (by rw [HG.out]; simp) _).setCell (by rw [HG.out]; exact Nat.le_refl _) _).setCell (by rw [HG.out]; simp) _), .inl ⟨clampE n r1, clampE n r2, by unfold edges; rw [HR1.out, HR2.out], clampE_le _ _, clampE_le _ _, ?_⟩⟩
            rw [HA1.out, HA2.out]
          · rcases Int.lt_or_le (n : Int) r2 with hd | hd
            · have HA2 : Hid (((clampE n r2 : Nat) : Int) = (n : Int)) := Lib.hid (clamp_hi n r2 hd)
              go_wp2_with fail
              refine bodyPost_ret (v := .tuple #[.int .i64 ((n : Int)), .int .i64 ((n : Int)), .nilIface]) (by simp [results, Tryz.results140, go_sem, cg, ch, lg, lh]) rfl ?_
              refine ⟨(((HW3.out.setCell (by rw [HG.out]; simp) _).setCell (by rw [HG.out]; exact Nat.le_refl _) _).setCell (by rw [HG.out]; simp) _), .inl ⟨clampE n r1, clampE n r2, by unfold edges; rw [HR1.out, HR2.out], clampE_le _ _, clampE_le _ _, ?_⟩⟩
              rw [HA1.out, HA2.out]
            · have HA2 : Hid (((clampE n r2 : Nat) : Int) = r2) := Lib.hid (clamp_in n r2 hc hd)
              go_wp2_with fail
              refine bodyPost_ret (v := .tuple #[.int .i64 ((n : Int)), .int .i64 (r2), .nilIface]) (by simp [results, Tryz.results140, go_sem, cg, ch, lg, lh]) rfl ?_
              refine ⟨((HW3.out.setCell (by rw [HG.out]; exact Nat.le_refl _) _).setCell (by rw [HG.out]; simp) _), .inl ⟨clampE n r1, clampE n r2, by unfold edges; rw [HR1.out, HR2.out], clampE_le _ _, clampE_le _ _, ?_⟩⟩
              rw [HA1.out, HA2.out]
        · have HR2 : Hid (edges n x y = none) := Lib.hid (by unfold edges; rw [HR1.out, hr2])
          have HW3 : Hid (Below w.heap.size w w2) := Lib.hid (up_below2 HW2.out (by rw [HG.out]; simp) hu2)
          have K1 := Lib.hid (KK.out.up hu2 (by intro e; injection e with e; omega))
          have K2 := Lib.hid hb2
          clear hr2 hu2 hb2 C3 HW2 KK cg fg lg ch fh lh
          go_wp2_with fail
          refine (EN.out _ _).mono ?_
          rintro e w3 ⟨q2, rfl, hb3⟩
          have hk1 := K1.out.below hb3 K1.out.lt
          have hk2 := K2.out.below hb3 K2.out.lt
          have cg := hk1.cell 0 (by simp)
          have fg := hk1.free 0
          have lg := hk1.lt
          have ch := hk2.cell 0 (by simp)
          have fh := hk2.free 0
          have lh := hk2.lt
          have HW4 := Lib.hid (HW3.out.trans (hb3.mono HW3.out.size))
          clear hb3 hk1 hk2 EN K1 K2
          go_wp2_with fail
          refine bodyPost_ret (v := .tuple #[.int .i64 0, .int .i64 0, .iface 229 (.pointer (some ⟨q2, 0, none⟩))]) (by simp [results, Tryz.results140, go_sem, cg, ch, lg, lh]) rfl ?_
          exact ⟨(HW4.out.setCell (by rw [HG.out]; exact Nat.le_refl _) _).setCell (by rw [HG.out]; simp) _, .inr ⟨HR2.out, q2, rfl⟩⟩
      · have HA1 : Hid (((clampE n r1 : Nat) : Int) = r1) := Lib.hid (clamp_in n r1 ha hb)
        have HW2 : Hid (Below w.heap.size w (w1.setCell ⟨g + 1, 0, none⟩ (.int .i64 (n : Int)))) := Lib.hid (HW1.out.setCell (by rw [HG.out]; simp) _)
        have k1 : Blk (w1.setCell ⟨g + 1, 0, none⟩ (.int .i64 (n : Int))) g 3 [.int .i64 (r1)] := K1.out.far (p := ⟨g + 1, 0, none⟩) hgp _
        have k2 : Blk (w1.setCell ⟨g + 1, 0, none⟩ (.int .i64 (n : Int))) (g + 1) 3 [.int .i64 n] := K2.out.set 0 (.int .i64 (n : Int))
        have C3 := Lib.hid (C2.out _ HW2.out k2)
        have KK := Lib.hid k1
        clear k1 k2 C2 K1 K2 HW1
        go_wp2_with fail
        refine C3.out.mono ?_
        rintro e w2 ⟨hu2, ⟨r2, hr2, rfl, hb2⟩ | ⟨hr2, q, k, rfl, hb2⟩⟩
        · have HR2 := Lib.hid hr2
          have HW3 : Hid (Below w.heap.size w w2) := Lib.hid (up_below2 HW2.out (by rw [HG.out]; simp) hu2)
          have hk1 := KK.out.up hu2 (by intro e; injection e with e; omega)
          clear cg fg lg ch fh lh
          have cg := hk1.cell 0 (by simp)
          have fg := hk1.free 0
          have lg := hk1.lt
          have ch := hb2.cell 0 (by simp)
          have fh := hb2.free 0
          have lh := hb2.lt
          clear hr2 hu2 hb2 hk1 C3 HW2 KK EN
          rcases Int.lt_or_le r2 0 with hc | hc
          · have HA2 : Hid (((clampE n r2 : Nat) : Int) = 0) := Lib.hid (clamp_lo n r2 hc)
            go_wp2_with fail
            refine bodyPost_ret (v := .tuple #[.int .i64 (r1), .int .i64 (0), .nilIface]) (by simp [results, Tryz.results140, go_sem, cg, ch, lg, lh]) rfl ?_
            refine ⟨(((HW3.out.setCell (by rw [HG.out]; simp) _).setCell (by rw [HG.out]; exact Nat.le_refl _) _).setCell (by rw [HG.out]; simp) _), .inl ⟨clampE n r1, clampE n r2, by unfold edges; rw [HR1.out, HR2.out], clampE_le _ _, clampE_le _ _, ?_⟩⟩
            rw [HA1.out, HA2.out]
          · rcases Int.lt_or_le (n : Int) r2 with hd | hd
            · have HA2 : Hid (((clampE n r2 : Nat) : Int) = (n : Int)) := Lib.hid (clamp_hi n r2 hd)
              go_wp2_with fail
              refine bodyPost_ret (v := .tuple #[.int .i64 (r1), .int .i64 ((n : Int)), .nilIface]) (by simp [results, Tryz.results140, go_sem, cg, ch, lg, lh]) rfl ?_
              refine ⟨(((HW3.out.setCell (by rw [HG.out]; simp) _).setCell (by rw [HG.out]; exact Nat.le_refl _) _).setCell (by rw [HG.out]; simp) _), .inl ⟨clampE n r1, clampE n r2, by unfold edges; rw [HR1.out, HR2.out], clampE_le _ _, clampE_le _ _, ?_⟩⟩
              rw [HA1.out, HA2.out]
            · have HA2 : Hid (((clampE n r2 : Nat) : Int) = r2) := Lib.hid (clamp_in n r2 hc hd)
              go_wp2_with fail
              refine bodyPost_ret (v := .tuple #[.int .i64 (r1), .int .i64 (r2), .nilIface]) (by simp [results, Tryz.results140, go_sem, cg, ch, lg, lh]) rfl ?_
              refine ⟨((HW3.out.setCell (by rw [HG.out]; exact Nat.le_refl _) _).setCell (by rw [HG.out]; simp) _), .inl ⟨clampE n r1, clampE n r2, by unfold edges; rw [HR1.out, HR2.out], clampE_le _ _, clampE_le _ _, ?_⟩⟩
              rw [HA1.out, HA2.out]
        · have HR2 : Hid (edges n x y = none) := Lib.hid (by unfold edges; rw [HR1.out, hr2])
          have HW3 : Hid (Below w.heap.size w w2) := Lib.hid (up_below2 HW2.out (by rw [HG.out]; simp) hu2)
          have K1 := Lib.hid (KK.out.up hu2 (by intro e; injection e with e; omega))
          have K2 := Lib.hid hb2
          clear hr2 hu2 hb2 C3 HW2 KK cg fg lg ch fh lh
          go_wp2_with fail
          refine (EN.out _ _).mono ?_
          rintro e w3 ⟨q2, rfl, hb3⟩
          have hk1 := K1.out.below hb3 K1.out.lt
          have hk2 := K2.out.below hb3 K2.out.lt
          have cg := hk1.cell 0 (by simp)
          have fg := hk1.free 0
          have lg := hk1.lt
          have ch := hk2.cell 0 (by simp)
          have fh := hk2.free 0
          have lh := hk2.lt
          have HW4 := Lib.hid (HW3.out.trans (hb3.mono HW3.out.size))
          clear hb3 hk1 hk2 EN K1 K2
          go_wp2_with fail
          refine bodyPost_ret (v := .tuple #[.int .i64 0, .int .i64 0, .iface 229 (.pointer (some ⟨q2, 0, none⟩))]) (by simp [results, Tryz.results140, go_sem, cg, ch, lg, lh]) rfl ?_
          exact ⟨(HW4.out.setCell (by rw [HG.out]; exact Nat.le_refl _) _).setCell (by rw [HG.out]; simp) _, .inr ⟨HR2.out, q2, rfl⟩⟩
  · have HR1 : Hid (edges n x y = none) := Lib.hid (by unfold edges; rw [hr1])
    have HW1 : Hid (Below w.heap.size w w1) := Lib.hid (up_below2 HB0.out (by rw [HG.out]; exact Nat.le_refl _) hu1)
    have hB1 : Blk w1 (g + 1) 3 [.int .i64 0] := HBB.out.up hu1 (by intro e; injection e with e; omega)
    have K1 := Lib.hid hb1; have K2 := Lib.hid hB1
    clear hr1 hu1 hb1 hB1 C1 HB0 HBB C2
    go_wp2_with fail
    refine (EN.out _ _).mono ?_
    rintro e w2 ⟨q2, rfl, hb2⟩
    have hk1 := K1.out.below hb2 K1.out.lt
    have hk2 := K2.out.below hb2 K2.out.lt
    have cg := hk1.cell 0 (by simp)
    have fg := hk1.free 0
    have lg := hk1.lt
    have ch := hk2.cell 0 (by simp)
    have fh := hk2.free 0
    have lh := hk2.lt
    have HW2 := Lib.hid (HW1.out.trans (hb2.mono HW1.out.size))
    clear hb2 hk1 hk2 EN K1 K2
    go_wp2_with fail
    refine bodyPost_ret (v := .tuple #[.int .i64 0, .int .i64 0, .iface 229 (.pointer (some ⟨q2, 0, none⟩))]) (by simp [results, Tryz.results140, go_sem, cg, ch, lg, lh]) rfl ?_
    exact ⟨(HW2.out.setCell (by rw [HG.out]; exact Nat.le_refl _) _).setCell (by rw [HG.out]; simp) _, .inr ⟨HR1.out, q2, rfl⟩⟩
end Go.Proofs.YtoggalnjjhcmkaaGreat

namespace Go.Proofs.YtoggalnjjhcmkaaGreat
open Go.RowKit Dig
set_option linter.unusedVariables false
set_option linter.unusedSimpArgs false
set_option maxRecDepth 100000

set_option maxHeartbeats 800000 in
theorem zzIndex_any (s p : ByteArray) (w : World) (hs : s.size ≤ 2147483647) (hp : p.size ≤ 2147483647) :
    Calls Tryz.prog 142 #[.string s, .string p] w fun e w' => e = .returned (.int .i64 (firstIn (occB s p) 0 (plc s p))) ∧ w = w' := by
  go_enter Tryz.func142, Tryz.ntmps142
  go_wp2_with fail
  go_loop [5] (fun i => ∃ k : Nat, k ≤ plc s p ∧ i = .int .i64 (k : Int) ∧ Hid (firstIn (occB s p) 0 k < 0)) (fun i => plc s p - (intOf i).toNat)
  case atStart => exact ⟨0, Nat.zero_le _, rfl, Lib.hid (by simp [firstIn])⟩
  case round =>
    obtain ⟨k, hk, rfl, hf⟩ := hrel
    have hkb : k ≤ 2147483648 := by unfold plc at hk; omega
    by_cases hlt : k + p.size ≤ s.size
    · have hn : k + 1 ≤ plc s p := by unfold plc; omega
      cases hocc : occB s p k with
      | true =>
        have ho : ((s.extract k (k + p.size)).toList == p.toList) = true := hocc
        have HE : Hid (firstIn (occB s p) 0 (plc s p) = (k : Int)) := Lib.hid (by
          have h1 := firstIn_hit (occB s p) 0 k hf.out (by rw [Nat.zero_add]; exact hocc)
          rw [Nat.zero_add] at h1
          obtain ⟨d, hd⟩ : ∃ d, plc s p = k + 1 + d := ⟨plc s p - (k + 1), by omega⟩
          rw [hd, firstIn_stop _ _ _ (by rw [h1]; omega), h1])
        clear hocc
        go_wp2_with fail
        go_ret
        exact ⟨by rw [HE.out]; rfl, rfl⟩
      | false =>
        have ho : ((s.extract k (k + p.size)).toList == p.toList) = false := hocc
        have HN : Hid (firstIn (occB s p) 0 (k + 1) < 0) := Lib.hid (by
          rw [firstIn_miss _ _ _ (by rw [Nat.zero_add]; exact hocc)]; exact hf.out)
        clear hocc
        go_wp2_with fail
        go_round
        case rel => exact ⟨k + 1, hn, by go_num, HN⟩
        case measure => simp [intOf]; omega
    · have HE : Hid (firstIn (occB s p) 0 (plc s p) = -1) := Lib.hid (by
        have e : plc s p = k := by unfold plc at hk ⊢; omega
        rw [e]
        rcases firstIn_bd (occB s p) 0 k with h | h
        · exact h
        · have := hf.out; omega)
      go_wp2_with fail
      go_ret
      exact ⟨by rw [HE.out]; rfl, rfl⟩
end Go.Proofs.YtoggalnjjhcmkaaGreat

namespace Go.Proofs.YtoggalnjjhcmkaaGreat
set_option linter.unusedVariables false
set_option linter.unusedSimpArgs false
open Go.Shelf
def ren148 : Go.Shelf.Ren := ⟨fun | 148 => 141 | 222 => 158 | 223 => 159 | 269 => 172 | n => n, fun | 3 => 3 | 4 => 4 | 5 => 5 | 9 => 9 | 46 => 110 | 51 => 149 | 146 => 261 | n => n, fun | 1 => 1 | n => n⟩
theorem lays148 : Go.Proofs.Lays.n148 Tryz.prog ren148 := {
  mixed := by kernel_rfl
  f148 := Tryz.func141.trans (congrArg some (by kernel_rfl))
  f222 := Tryz.func158.trans (congrArg some (by kernel_rfl))
  f223 := Tryz.func159.trans (congrArg some (by kernel_rfl))
  f269 := Tryz.func172.trans (congrArg some (by kernel_rfl))
  t3 := Tryz.underlying3
  a3 := Tryz.isAgg3
  z3 := Tryz.sizeOf3
  v3 := Tryz.zeroValue3
  t4 := Tryz.underlying4
  a4 := Tryz.isAgg4
  z4 := Tryz.sizeOf4
  v4 := Tryz.zeroValue4
  t5 := Tryz.underlying5
  a5 := Tryz.isAgg5
  z5 := Tryz.sizeOf5
  v5 := Tryz.zeroValue5
  t9 := Tryz.underlying9
  a9 := Tryz.isAgg9
  z9 := Tryz.sizeOf9
  v9 := Tryz.zeroValue9
  t46 := Tryz.underlying110
  a46 := Tryz.isAgg110
  z46 := Tryz.sizeOf110
  v46 := Tryz.zeroValue110
  t51 := Tryz.underlying149
  a51 := Tryz.isAgg149
  z51 := Tryz.sizeOf149
  v51 := Tryz.zeroValue149
  t146 := Tryz.underlying261
  a146 := Tryz.isAgg261
  z146 := Tryz.sizeOf261
  v146 := Tryz.zeroValue261 }
end Go.Proofs.YtoggalnjjhcmkaaGreat

namespace Go.Proofs.YtoggalnjjhcmkaaGreat
open Go.RowKit Dig
set_option linter.unusedVariables false
set_option linter.unusedSimpArgs false
set_option maxRecDepth 100000

theorem makeInt_any (n : Int) (w : World) (h1 : -2147483648 ≤ n) (h2 : n ≤ 2147483647) : Calls Tryz.prog 143 #[.int .i64 n] w fun e w' => e = .returned (.agg #[.int .i64 n, .pointer none]) ∧ Below w.heap.size w w' := by
  obtain ⟨W0, hW0⟩ : ∃ W0, W0 = w.alloc (.cells #[.int .i64 0, .pointer none] 120) := ⟨_, rfl⟩
  have hz : Blk W0 w.heap.size 120 [.int .i64 0, .pointer none] := by rw [hW0]; exact Blk.new w _ [.int .i64 0, .pointer none]
  have hb0 : Below w.heap.size w W0 := by rw [hW0]; exact (Below.refl _ _).alloc (Nat.le_refl _) _
  have C : Hid (Calls Tryz.prog 160 #[.int .i64 n] W0 fun e w' => e = .returned (.agg #[.int .i64 n, .pointer none]) ∧ Blk w' w.heap.size 120 [.int .i64 0, .pointer none] ∧ Below w.heap.size w w') := Lib.hid ((makeInt64_any n W0 (by omega) (by omega)).mono (by
    rintro e w' ⟨v, rfl, hv, hb⟩
    refine ⟨?_, hz.below hb hz.lt, hb0.trans (hb.mono hb0.size)⟩
    obtain ⟨s, q, rfl, ⟨rfl, rfl, _, _⟩ | ⟨_, h0, _⟩⟩ := hv
    · rfl
    · exact absurd ⟨h1, h2⟩ h0))
  clear hz hb0
  subst hW0
  go_enter Tryz.func143, Tryz.ntmps143
  go_wp2_with fail
  refine C.out.mono ?_
  rintro e w1 ⟨rfl, hk, hb⟩
  have c0 := hk.cell 0 (by simp)
  have c1 := hk.cell 1 (by simp)
  have f0 := hk.free 0
  have f1 := hk.free 1
  have l0 := hk.lt
  have HB := Lib.hid hb
  clear hk hb C
  go_wp2_with fail
  refine bodyPost_ret (v := .agg #[.int .i64 n, .pointer none]) (by simp [results, Tryz.results143, go_sem, c0, c1, l0]) rfl ?_
  exact ⟨rfl, (HB.out.setCell (Nat.le_refl _) _).setCell (Nat.le_refl _) _⟩
/-- what a search between two places answers: none where it is refused -/
def findR (err last : Bool) (s p : ByteArray) (x y : Scal) : Option Int :=
  match edges s.size x y with
  | none => none
  | some (a, b) => if foundAt last s p a b < 0 && !err then none else some (foundAt last s p a b)
def FiPost (err last : Bool) (s p : ByteArray) (x y : Scal) (w : World) (e : Ending) (w' : World) : Prop :=
  Below w.heap.size w w' ∧ ((∃ i, findR err last s p x y = some i ∧ -1 ≤ i ∧ i ≤ 60 ∧ e = .returned (.tuple #[.iface 120 (.agg #[.int .i64 i, .pointer none]), .nilIface])) ∨ (findR err last s p x y = none ∧ ∃ q, e = .returned (.tuple #[.nilIface, .iface 229 (.pointer (some ⟨q, 0, none⟩))])))
theorem lastIndex_any (s p : ByteArray) (w : World) (hs : s.size ≤ 60) :
    Calls Tryz.prog 141 #[.string s, .string p] w fun e w' => e = .returned (.int .i64 (lastIn (occB s p) 0 (plc s p))) ∧ w' = w := by
  rw [← lastIndex_lastIn]
  exact Any.strings_LastIndex lays148 s p (by omega) w
theorem foundAt_last (s p : ByteArray) (a b : Nat) (hb : b ≤ s.size) : foundAt true s p a b = (if lastIn (occB (cutS s a b) p) 0 (plc (cutS s a b) p) < 0 then -1 else lastIn (occB (cutS s a b) p) 0 (plc (cutS s a b) p) + a) := by
  unfold foundAt; rw [if_pos rfl]; exact last_cut s p a b hb
theorem foundAt_first (s p : ByteArray) (a b : Nat) (hb : b ≤ s.size) : foundAt false s p a b = (if firstIn (occB (cutS s a b) p) 0 (plc (cutS s a b) p) < 0 then -1 else firstIn (occB (cutS s a b) p) 0 (plc (cutS s a b) p) + a) := by
  unfold foundAt; rw [if_neg (by simp)]; exact first_cut s p a b hb
/-- where a text stands first, or last, in a part: or -1 -/
def rIn (last : Bool) (t p : ByteArray) : Int := if last then lastIn (occB t p) 0 (plc t p) else firstIn (occB t p) 0 (plc t p)
theorem rIn_bd (last : Bool) (t p : ByteArray) : rIn last t p = -1 ∨ (0 ≤ rIn last t p ∧ rIn last t p ≤ t.size) := by
  unfold rIn
  cases last with
  | true =>
    rw [if_pos rfl]
    rcases lastIn_bd (occB t p) 0 (plc t p) with h | h
    · exact .inl h
    · right; unfold plc at h ⊢; omega
  | false =>
    rw [if_neg (by simp)]
    rcases firstIn_bd (occB t p) 0 (plc t p) with h | h
    · exact .inl h
    · right; unfold plc at h ⊢; omega
theorem foundAt_rIn (last : Bool) (s p : ByteArray) (a b : Nat) (hb : b ≤ s.size) : foundAt last s p a b = (if rIn last (cutS s a b) p < 0 then -1 else rIn last (cutS s a b) p + a) := by
  cases last with
  | true => exact foundAt_last s p a b hb
  | false => exact foundAt_first s p a b hb
set_option maxHeartbeats 6400000 in
theorem findImpl_any (err last : Bool) (b : Nat) (nm : ByteArray) (kf : Nat) (s p : ByteArray) (x y : Scal) (ga oa ca : Nat) (T2 T3 : TypeId) (y2 y3 : Value) (w : World) (hs : s.size ≤ 60) (hp : p.size ≤ 60) (hm : Meth w b nm kf (.iface 96 (.string s)))
    (ha1 : w.cell? ⟨ga, oa, none⟩ = some (.iface 96 (.string p))) (ha2 : w.cell? ⟨ga, oa + 1, none⟩ = some (.iface T2 y2)) (ha3 : w.cell? ⟨ga, oa + 2, none⟩ = some (.iface T3 y3))
    (hx : SV w w.heap.size (.iface T2 y2) x) (hy : SV w w.heap.size (.iface T3 y3) y) (px : Pl x) (py : Pl y) :
    Calls Tryz.prog 123 #[.pointer (some ⟨b, 0, none⟩), .slice (some ⟨ga, oa, none⟩) 3 ca, .slice none 0 0, .bool err, .bool last] w (FiPost err last s p x y w) := by
  obtain ⟨g, hg⟩ : ∃ g, g = w.heap.size := ⟨_, rfl⟩
  obtain ⟨W1, hW1⟩ : ∃ W1, W1 = ((w.alloc (.cells #[.string { data := #[] }] 9)).alloc (.cells #[.nilIface] 77)).alloc (.cells #[.nilIface] 77) := ⟨_, rfl⟩
  obtain ⟨W2, hW2⟩ : ∃ W2, W2 = W1.alloc (.cells #[.iface 192 (.pointer (some ⟨g, 0, none⟩)), .iface 193 (.pointer (some ⟨g + 1, 0, none⟩)), .iface 193 (.pointer (some ⟨g + 1 + 1, 0, none⟩))] 20) := ⟨_, rfl⟩
  have s1 : W1.heap.size = g + 1 + 1 + 1 := by rw [hW1, hg]; simp
  have s2 : W2.heap.size = g + 1 + 1 + 1 + 1 := by rw [hW2]; simp [s1]
  have b1 : Below w.heap.size w W1 := by rw [hW1]; exact (((Below.refl _ _).alloc (Nat.le_refl _) _).alloc (by simp) _).alloc (by simp; omega) _
  have b2 : Below w.heap.size w W2 := by rw [hW2]; exact b1.alloc b1.size _
  have k0 : Blk W2 g 9 [.string { data := #[] }] := by rw [hW2, hW1, hg]; exact (((Blk.new w _ [.string { data := #[] }]).alloc _).alloc _).alloc _
  have k1 : Blk W2 (g + 1) 77 [.nilIface] := by
    have := Blk.new (w.alloc (.cells #[.string { data := #[] }] 9)) 77 [.nilIface]
    have := (this.alloc (.cells #[.nilIface] 77)).alloc (.cells #[.iface 192 (.pointer (some ⟨g, 0, none⟩)), .iface 193 (.pointer (some ⟨g + 1, 0, none⟩)), .iface 193 (.pointer (some ⟨g + 1 + 1, 0, none⟩))] 20)
    rw [hW2, hW1, hg]; simpa [hg] using this
  have k2 : Blk W2 (g + 1 + 1) 77 [.nilIface] := by
    have := Blk.new ((w.alloc (.cells #[.string { data := #[] }] 9)).alloc (.cells #[.nilIface] 77)) 77 [.nilIface]
    have := this.alloc (.cells #[.iface 192 (.pointer (some ⟨g, 0, none⟩)), .iface 193 (.pointer (some ⟨g + 1, 0, none⟩)), .iface 193 (.pointer (some ⟨g + 1 + 1, 0, none⟩))] 20)
    rw [hW2, hW1, hg]; simpa [hg] using this
  have k3 : Blk W2 (g + 1 + 1 + 1) 20 [.iface 192 (.pointer (some ⟨g, 0, none⟩)), .iface 193 (.pointer (some ⟨g + 1, 0, none⟩)), .iface 193 (.pointer (some ⟨g + 1 + 1, 0, none⟩))] := by
    have := Blk.new W1 20 [.iface 192 (.pointer (some ⟨g, 0, none⟩)), .iface 193 (.pointer (some ⟨g + 1, 0, none⟩)), .iface 193 (.pointer (some ⟨g + 1 + 1, 0, none⟩))]
    rw [s1] at this; rw [hW2]; exact this
  have lga : ga < g := by rw [hg]; exact lt_of_cell ha1
  have lb : b < g := by rw [hg]; exact hm.lt
  have hcell : ∀ o v, w.cell? ⟨ga, o, none⟩ = some v → W2.cell? ⟨ga, o, none⟩ = some v := fun o v h => (b2.cell (p := ⟨ga, o, none⟩) (by rw [← hg]; exact lga)).trans h
  have UA : UpArgs W2 ga oa (g + 1 + 1 + 1) (.iface 96 (.string p)) (.iface T2 y2) (.iface T3 y3) g (g + 1) (g + 1 + 1) := ⟨hcell _ _ ha1, hcell _ _ ha2, hcell _ _ ha3, k3⟩
  have CU := Lib.hid (unpack3_any nm ga oa ca (g + 1 + 1 + 1) g (g + 1) (g + 1 + 1) p T2 T3 y2 y3 _ _ _ W2 UA k0 k1 k2 ⟨by omega, by omega, by omega⟩ ⟨by omega, by omega, by omega⟩ (by omega) (by omega) (by omega))
  obtain ⟨W3, hW3⟩ : ∃ W3, W3 = upW W2 g (g + 1) (g + 1 + 1) (.string p) (.iface T2 y2) (.iface T3 y3) 3 := ⟨_, rfl⟩
  rw [← hW3] at CU
  have b3 : Below w.heap.size w W3 := by rw [hW3]; exact ((b2.setCell (by rw [hg]; exact Nat.le_refl _) _).setCell (by rw [hg]; simp) _).setCell (by rw [hg]; simp; omega) _
  have j0 : Blk W3 g 9 [.string p] := by rw [hW3]; exact ((k0.set 0 (.string p)).far (p := ⟨g + 1, 0, none⟩) (by simp) _).far (p := ⟨g + 1 + 1, 0, none⟩) (by simp; omega) _
  have j1 : Blk W3 (g + 1) 77 [.iface T2 y2] := by rw [hW3]; exact ((k1.far (p := ⟨g, 0, none⟩) (by simp) _).set 0 (.iface T2 y2)).far (p := ⟨g + 1 + 1, 0, none⟩) (by simp) _
  have j2 : Blk W3 (g + 1 + 1) 77 [.iface T3 y3] := by rw [hW3]; exact ((k2.far (p := ⟨g, 0, none⟩) (by simp; omega) _).far (p := ⟨g + 1, 0, none⟩) (by simp) _).set 0 (.iface T3 y3)
  have CN := Lib.hid (name_any b nm kf _ W1 (hm.below b1 hm.lt))
  have CR := Lib.hid (receiver_any b nm kf _ _ W3 (hm.below b3 hm.lt))
  have CX := Lib.hid (indices_any s.size T2 T3 y2 y3 x y W3 (by omega) ((hx.below b3).more b3.size) ((hy.below b3).more b3.size) px py)
  have EN : Hid (∀ a c W, Calls Tryz.prog 95 #[a, c] W (fun e w' => ∃ b, e = .returned (.iface 229 (.pointer (some ⟨b, 0, none⟩))) ∧ Below W.heap.size W w')) := Lib.hid (fun a c W => nameErr_any a c W)
  have MI : Hid (∀ n W, -1 ≤ n → n ≤ 60 → Calls Tryz.prog 143 #[.int .i64 n] W fun e w' => e = .returned (.agg #[.int .i64 n, .pointer none]) ∧ Below W.heap.size W w') := Lib.hid (fun n W h1 h2 => makeInt_any n W (by omega) (by omega))
  have HB3 := Lib.hid b3
  have d0 := j0.cell 0 (by simp)
  have d1 := j1.cell 0 (by simp)
  have d2 := j2.cell 0 (by simp)
  have J0 := Lib.hid j0
  have hta := assertStr
  have S1 := Lib.hid s1; have HW2 := Lib.hid hW2
  clear b1 b2 b3 k0 k1 k2 k3 UA hcell ha1 ha2 ha3 hm hx hy px py lga lb s1 s2 hW3 j0 j1 j2 hW2
  go_enter Tryz.func123, Tryz.ntmps123
  go_wp2_with fail
  rw [← hW1, ← hg]
  clear hg
  refine CN.out.mono ?_
  rintro e w1 ⟨rfl, rfl⟩
  clear hW1 CN
  go_wp2_with fail
  rw [S1.out, ← HW2.out]
  refine CU.out.mono ?_
  rintro e w2 ⟨rfl, rfl⟩
  clear CU HW2 S1
  go_wp2_with fail
  refine CR.out.mono ?_
  rintro e w3 ⟨rfl, rfl⟩
  go_wp2_with fail
  refine CX.out.mono ?_
  rintro e w4 ⟨hb4, ⟨a, c, hr, ha, hc, rfl⟩ | ⟨hr, q, rfl⟩⟩
  · have HE := Lib.hid hr
    have HB4 := Lib.hid (HB3.out.trans (hb4.mono HB3.out.size))
    have d0 := (J0.out.below hb4 J0.out.lt).cell 0 (by simp)
    have HS : Hid ((s.extract a c).size ≤ 60) := Lib.hid (by rw [ByteArray.size_extract]; omega)
    clear hb4 hr CX CR J0 d1 d2 HB3
    by_cases hlt : a < c
    · cases last with
      | true =>
        have ET : cutS s a c = s.extract a c := by unfold cutS; rw [if_pos hlt]
        obtain ⟨R, hR⟩ : ∃ R, R = rIn true (s.extract a c) p := ⟨_, rfl⟩
        have CF : Hid (∀ W, Calls Tryz.prog 141 #[.string (s.extract a c), .string p] W fun e w' => e = .returned (.int .i64 R) ∧ w' = W) := Lib.hid (fun W => by
          have hh : R = lastIn (occB (s.extract a c) p) 0 (plc (s.extract a c) p) := by rw [hR]; unfold rIn; rw [if_pos rfl]
          rw [hh]
          exact lastIndex_any (s.extract a c) p W HS.out)
        have hbd := rIn_bd true (cutS s a c) p
        have hfa := foundAt_rIn true s p a c hc
        have hct := cutS_size s a c hc
        rw [ET, ← hR] at hbd hfa
        rw [ET] at hct
        have HF : Hid (findR err true s p x y = if foundAt true s p a c < 0 && !err then none else some (foundAt true s p a c)) := Lib.hid (by unfold findR; rw [HE.out])
        rcases Int.lt_or_le R 0 with hneg | hpos
        · have HFA : Hid (foundAt true s p a c = -1) := Lib.hid (by rw [hfa, if_pos hneg])
          have hR1 : R = -1 := by omega
          subst hR1
          clear hbd hfa hct ET hneg hR HS
          cases err with
          | true =>
            have HR2 : Hid (findR true true s p x y = some (-1)) := Lib.hid (by rw [HF.out, HFA.out]; simp)
            clear HF HFA EN
            go_wp2_with fail
            refine (CF.out _).mono ?_
            rintro e w5 ⟨rfl, rfl⟩
            go_wp2_with fail
            refine (MI.out (-1) _ (by decide) (by decide)).mono ?_
            rintro e w6 ⟨rfl, hb6⟩
            have HB6 := Lib.hid (HB4.out.trans (hb6.mono HB4.out.size))
            clear hb6
            go_wp2_with fail
            go_ret2
            exact ⟨HB6.out, .inl ⟨-1, HR2.out, by decide, by decide, rfl⟩⟩
          | false =>
            have HR2 : Hid (findR false true s p x y = none) := Lib.hid (by rw [HF.out, HFA.out]; simp)
            clear HF HFA MI
            go_wp2_with fail
            refine (CF.out _).mono ?_
            rintro e w5 ⟨rfl, rfl⟩
            go_wp2_with fail
            refine (EN.out _ _ _).mono ?_
            rintro e w6 ⟨q2, rfl, hb6⟩
            have HB6 := Lib.hid (HB4.out.trans (hb6.mono HB4.out.size))
            clear hb6
            go_wp2_with fail
            go_ret2
            exact ⟨HB6.out, .inr ⟨HR2.out, q2, rfl⟩⟩
        · have HFA : Hid (foundAt true s p a c = R + a) := Lib.hid (by rw [hfa, if_neg (by omega)])
          have hle : R + a ≤ 60 := by omega
          have hge : -1 ≤ R + a := by omega
          have hw : IntKind.i64.wrap (R + (a : Int)) = R + a := by rw [IntKind.wrap_i64]; omega
          have HR2 : Hid (findR err true s p x y = some (R + a)) := Lib.hid (by
            rw [HF.out, HFA.out]
            have h0 : decide (R + (a : Int) < 0) = false := by simp; omega
            rw [if_neg (by simp [h0])])
          have HL := Lib.hid hle; have HGE := Lib.hid hge
          clear hbd hfa hct ET hR HF HFA EN HS hle hge
          go_wp2_with fail
          refine (CF.out _).mono ?_
          rintro e w5 ⟨rfl, rfl⟩
          go_wp2_with fail
          refine (MI.out (R + a) _ HGE.out HL.out).mono ?_
          rintro e w6 ⟨rfl, hb6⟩
          have HB6 := Lib.hid (HB4.out.trans (hb6.mono HB4.out.size))
          clear hb6
          go_wp2_with fail
          go_ret2
          exact ⟨HB6.out, .inl ⟨R + a, HR2.out, HGE.out, HL.out, rfl⟩⟩
      | false =>
        have ET : cutS s a c = s.extract a c := by unfold cutS; rw [if_pos hlt]
        obtain ⟨R, hR⟩ : ∃ R, R = rIn false (s.extract a c) p := ⟨_, rfl⟩
        have CF : Hid (∀ W, Calls Tryz.prog 142 #[.string (s.extract a c), .string p] W fun e w' => e = .returned (.int .i64 R) ∧ w' = W) := Lib.hid (fun W => by
          have hh : R = firstIn (occB (s.extract a c) p) 0 (plc (s.extract a c) p) := by rw [hR]; unfold rIn; rw [if_neg (by simp)]
          rw [hh]
          exact (zzIndex_any (s.extract a c) p W (by have := HS.out; omega) (by omega)).mono (by rintro e w' ⟨rfl, rfl⟩; exact ⟨rfl, rfl⟩))
        have hbd := rIn_bd false (cutS s a c) p
        have hfa := foundAt_rIn false s p a c hc
        have hct := cutS_size s a c hc
        rw [ET, ← hR] at hbd hfa
        rw [ET] at hct
        have HF : Hid (findR err false s p x y = if foundAt false s p a c < 0 && !err then none else some (foundAt false s p a c)) := Lib.hid (by unfold findR; rw [HE.out])
        rcases Int.lt_or_le R 0 with hneg | hpos
        · have HFA : Hid (foundAt false s p a c = -1) := Lib.hid (by rw [hfa, if_pos hneg])
          have hR1 : R = -1 := by omega
          subst hR1
          clear hbd hfa hct ET hneg hR HS
          cases err with
          | true =>
            have HR2 : Hid (findR true false s p x y = some (-1)) := Lib.hid (by rw [HF.out, HFA.out]; simp)
            clear HF HFA EN
            go_wp2_with fail
            refine (CF.out _).mono ?_
            rintro e w5 ⟨rfl, rfl⟩
            go_wp2_with fail
            refine (MI.out (-1) _ (by decide) (by decide)).mono ?_
            rintro e w6 ⟨rfl, hb6⟩
            have HB6 := Lib.hid (HB4.out.trans (hb6.mono HB4.out.size))
            clear hb6
            go_wp2_with fail
            go_ret2
            exact ⟨HB6.out, .inl ⟨-1, HR2.out, by decide, by decide, rfl⟩⟩
          | false =>
            have HR2 : Hid (findR false false s p x y = none) := Lib.hid (by rw [HF.out, HFA.out]; simp)
            clear HF HFA MI
            go_wp2_with fail
            refine (CF.out _).mono ?_
            rintro e w5 ⟨rfl, rfl⟩
            go_wp2_with fail
            refine (EN.out _ _ _).mono ?_
            rintro e w6 ⟨q2, rfl, hb6⟩
            have HB6 := Lib.hid (HB4.out.trans (hb6.mono HB4.out.size))
            clear hb6
            go_wp2_with fail
            go_ret2
            exact ⟨HB6.out, .inr ⟨HR2.out, q2, rfl⟩⟩
        · have HFA : Hid (foundAt false s p a c = R + a) := Lib.hid (by rw [hfa, if_neg (by omega)])
          have hle : R + a ≤ 60 := by omega
          have hge : -1 ≤ R + a := by omega
          have hw : IntKind.i64.wrap (R + (a : Int)) = R + a := by rw [IntKind.wrap_i64]; omega
          have HR2 : Hid (findR err false s p x y = some (R + a)) := Lib.hid (by
            rw [HF.out, HFA.out]
            have h0 : decide (R + (a : Int) < 0) = false := by simp; omega
            rw [if_neg (by simp [h0])])
          have HL := Lib.hid hle; have HGE := Lib.hid hge
          clear hbd hfa hct ET hR HF HFA EN HS hle hge
          go_wp2_with fail
          refine (CF.out _).mono ?_
          rintro e w5 ⟨rfl, rfl⟩
          go_wp2_with fail
          refine (MI.out (R + a) _ HGE.out HL.out).mono ?_
          rintro e w6 ⟨rfl, hb6⟩
          have HB6 := Lib.hid (HB4.out.trans (hb6.mono HB4.out.size))
          clear hb6
          go_wp2_with fail
          go_ret2
          exact ⟨HB6.out, .inl ⟨R + a, HR2.out, HGE.out, HL.out, rfl⟩⟩
    · cases last with
      | true =>
        have ET : cutS s a c = ({ data := #[] } : ByteArray) := by unfold cutS; rw [if_neg hlt]; rfl
        obtain ⟨R, hR⟩ : ∃ R, R = rIn true (({ data := #[] } : ByteArray)) p := ⟨_, rfl⟩
        have CF : Hid (∀ W, Calls Tryz.prog 141 #[.string (({ data := #[] } : ByteArray)), .string p] W fun e w' => e = .returned (.int .i64 R) ∧ w' = W) := Lib.hid (fun W => by
          have hh : R = lastIn (occB (({ data := #[] } : ByteArray)) p) 0 (plc (({ data := #[] } : ByteArray)) p) := by rw [hR]; unfold rIn; rw [if_pos rfl]
          rw [hh]
          exact lastIndex_any _ p W (by decide))
        have hbd := rIn_bd true (cutS s a c) p
        have hfa := foundAt_rIn true s p a c hc
        have hct := cutS_size s a c hc
        rw [ET, ← hR] at hbd hfa
        rw [ET] at hct
        have HF : Hid (findR err true s p x y = if foundAt true s p a c < 0 && !err then none else some (foundAt true s p a c)) := Lib.hid (by unfold findR; rw [HE.out])
        rcases Int.lt_or_le R 0 with hneg | hpos
        · have HFA : Hid (foundAt true s p a c = -1) := Lib.hid (by rw [hfa, if_pos hneg])
          have hR1 : R = -1 := by omega
          subst hR1
          clear hbd hfa hct ET hneg hR HS
          cases err with
          | true =>
            have HR2 : Hid (findR true true s p x y = some (-1)) := Lib.hid (by rw [HF.out, HFA.out]; simp)
            clear HF HFA EN
            go_wp2_with fail
            refine (CF.out _).mono ?_
            rintro e w5 ⟨rfl, rfl⟩
            go_wp2_with fail
            refine (MI.out (-1) _ (by decide) (by decide)).mono ?_
            rintro e w6 ⟨rfl, hb6⟩
            have HB6 := Lib.hid (HB4.out.trans (hb6.mono HB4.out.size))
            clear hb6
            go_wp2_with fail
            go_ret2
            exact ⟨HB6.out, .inl ⟨-1, HR2.out, by decide, by decide, rfl⟩⟩
          | false =>
            have HR2 : Hid (findR false true s p x y = none) := Lib.hid (by rw [HF.out, HFA.out]; simp)
            clear HF HFA MI
            go_wp2_with fail
            refine (CF.out _).mono ?_
            rintro e w5 ⟨rfl, rfl⟩
            go_wp2_with fail
            refine (EN.out _ _ _).mono ?_
            rintro e w6 ⟨q2, rfl, hb6⟩
            have HB6 := Lib.hid (HB4.out.trans (hb6.mono HB4.out.size))
            clear hb6
            go_wp2_with fail
            go_ret2
            exact ⟨HB6.out, .inr ⟨HR2.out, q2, rfl⟩⟩
        · have HFA : Hid (foundAt true s p a c = R + a) := Lib.hid (by rw [hfa, if_neg (by omega)])
          have hle : R + a ≤ 60 := by omega
          have hge : -1 ≤ R + a := by omega
          have hw : IntKind.i64.wrap (R + (a : Int)) = R + a := by rw [IntKind.wrap_i64]; omega
          have HR2 : Hid (findR err true s p x y = some (R + a)) := Lib.hid (by
            rw [HF.out, HFA.out]
            have h0 : decide (R + (a : Int) < 0) = false := by simp; omega
            rw [if_neg (by simp [h0])])
          have HL := Lib.hid hle; have HGE := Lib.hid hge
          clear hbd hfa hct ET hR HF HFA EN HS hle hge
          go_wp2_with fail
          refine (CF.out _).mono ?_
          rintro e w5 ⟨rfl, rfl⟩
          go_wp2_with fail
          refine (MI.out (R + a) _ HGE.out HL.out).mono ?_
          rintro e w6 ⟨rfl, hb6⟩
          have HB6 := Lib.hid (HB4.out.trans (hb6.mono HB4.out.size))
          clear hb6
          go_wp2_with fail
          go_ret2
          exact ⟨HB6.out, .inl ⟨R + a, HR2.out, HGE.out, HL.out, rfl⟩⟩
      | false =>
        have ET : cutS s a c = ({ data := #[] } : ByteArray) := by unfold cutS; rw [if_neg hlt]; rfl
        obtain ⟨R, hR⟩ : ∃ R, R = rIn false (({ data := #[] } : ByteArray)) p := ⟨_, rfl⟩
        have CF : Hid (∀ W, Calls Tryz.prog 142 #[.string (({ data := #[] } : ByteArray)), .string p] W fun e w' => e = .returned (.int .i64 R) ∧ w' = W) := Lib.hid (fun W => by
          have hh : R = firstIn (occB (({ data := #[] } : ByteArray)) p) 0 (plc (({ data := #[] } : ByteArray)) p) := by rw [hR]; unfold rIn; rw [if_neg (by simp)]
          rw [hh]
          exact (zzIndex_any _ p W (by decide) (by omega)).mono (by rintro e w' ⟨rfl, rfl⟩; exact ⟨rfl, rfl⟩))
        have hbd := rIn_bd false (cutS s a c) p
        have hfa := foundAt_rIn false s p a c hc
        have hct := cutS_size s a c hc
        rw [ET, ← hR] at hbd hfa
        rw [ET] at hct
        have HF : Hid (findR err false s p x y = if foundAt false s p a c < 0 && !err then none else some (foundAt false s p a c)) := Lib.hid (by unfold findR; rw [HE.out])
        rcases Int.lt_or_le R 0 with hneg | hpos
        · have HFA : Hid (foundAt false s p a c = -1) := Lib.hid (by rw [hfa, if_pos hneg])
          have hR1 : R = -1 := by omega
          subst hR1
          clear hbd hfa hct ET hneg hR HS
          cases err with
          | true =>
            have HR2 : Hid (findR true false s p x y = some (-1)) := Lib.hid (by rw [HF.out, HFA.out]; simp)
            clear HF HFA EN
            go_wp2_with fail
            refine (CF.out _).mono ?_
            rintro e w5 ⟨rfl, rfl⟩
            go_wp2_with fail
            refine (MI.out (-1) _ (by decide) (by decide)).mono ?_
            rintro e w6 ⟨rfl, hb6⟩
            have HB6 := Lib.hid (HB4.out.trans (hb6.mono HB4.out.size))
            clear hb6
            go_wp2_with fail
            go_ret2
            exact ⟨HB6.out, .inl ⟨-1, HR2.out, by decide, by decide, rfl⟩⟩
          | false =>
            have HR2 : Hid (findR false false s p x y = none) := Lib.hid (by rw [HF.out, HFA.out]; simp)
            clear HF HFA MI
            go_wp2_with fail
            refine (CF.out _).mono ?_
            rintro e w5 ⟨rfl, rfl⟩
            go_wp2_with fail
            refine (EN.out _ _ _).mono ?_
            rintro e w6 ⟨q2, rfl, hb6⟩
            have HB6 := Lib.hid (HB4.out.trans (hb6.mono HB4.out.size))
            clear hb6
            go_wp2_with fail
            go_ret2
            exact ⟨HB6.out, .inr ⟨HR2.out, q2, rfl⟩⟩
        · have HFA : Hid (foundAt false s p a c = R + a) := Lib.hid (by rw [hfa, if_neg (by omega)])
          have hle : R + a ≤ 60 := by omega
          have hge : -1 ≤ R + a := by omega
          have hw : IntKind.i64.wrap (R + (a : Int)) = R + a := by rw [IntKind.wrap_i64]; omega
          have HR2 : Hid (findR err false s p x y = some (R + a)) := Lib.hid (by
            rw [HF.out, HFA.out]
            have h0 : decide (R + (a : Int) < 0) = false := by simp; omega
            rw [if_neg (by simp [h0])])
          have HL := Lib.hid hle; have HGE := Lib.hid hge
          clear hbd hfa hct ET hR HF HFA EN HS hle hge
          go_wp2_with fail
          refine (CF.out _).mono ?_
          rintro e w5 ⟨rfl, rfl⟩
          go_wp2_with fail
          refine (MI.out (R + a) _ HGE.out HL.out).mono ?_
          rintro e w6 ⟨rfl, hb6⟩
          have HB6 := Lib.hid (HB4.out.trans (hb6.mono HB4.out.size))
          clear hb6
          go_wp2_with fail
          go_ret2
          exact ⟨HB6.out, .inl ⟨R + a, HR2.out, HGE.out, HL.out, rfl⟩⟩
  · have HR : Hid (findR err last s p x y = none) := Lib.hid (by unfold findR; rw [hr])
    have HB4 := Lib.hid (HB3.out.trans (hb4.mono HB3.out.size))
    clear hb4 hr CX CR MI
    go_wp2_with fail
    refine (EN.out _ _ _).mono ?_
    rintro e w5 ⟨q2, rfl, hb5⟩
    have HB5 := Lib.hid (HB4.out.trans (hb5.mono HB4.out.size))
    clear hb5 EN
    go_wp2_with fail
    go_ret2
    exact ⟨HB5.out, .inr ⟨HR.out, q2, rfl⟩⟩
end Go.Proofs.YtoggalnjjhcmkaaGreat

namespace Go.Proofs.YtoggalnjjhcmkaaGreat
open Go.RowKit Dig
set_option linter.unusedVariables false
set_option linter.unusedSimpArgs false
set_option maxRecDepth 100000

/-- the three arguments of a search, as values in memory -/
def FArgs (w : World) (v : Value) (p : ByteArray) (x y : Scal) : Prop :=
  ∃ ga oa ca T2 T3 y2 y3, v = .slice (some ⟨ga, oa, none⟩) 3 ca ∧ w.cell? ⟨ga, oa, none⟩ = some (.iface 96 (.string p)) ∧ w.cell? ⟨ga, oa + 1, none⟩ = some (.iface T2 y2) ∧ w.cell? ⟨ga, oa + 2, none⟩ = some (.iface T3 y3) ∧ SV w w.heap.size (.iface T2 y2) x ∧ SV w w.heap.size (.iface T3 y3) y
theorem FArgs.below {w w' : World} {v : Value} {p : ByteArray} {x y : Scal} (h : FArgs w v p x y) (hb : Below w.heap.size w w') : FArgs w' v p x y := by
  obtain ⟨ga, oa, ca, T2, T3, y2, y3, rfl, h1, h2, h3, h4, h5⟩ := h
  have lg := lt_of_cell h1
  exact ⟨ga, oa, ca, T2, T3, y2, y3, rfl, (hb.cell (p := ⟨ga, oa, none⟩) lg).trans h1, (hb.cell (p := ⟨ga, oa + 1, none⟩) lg).trans h2, (hb.cell (p := ⟨ga, oa + 2, none⟩) lg).trans h3, (h4.below hb).more hb.size, (h5.below hb).more hb.size⟩
theorem FArgs.form {w : World} {v : Value} {p : ByteArray} {x y : Scal} (h : FArgs w v p x y) : ∃ ga oa ca, v = .slice (some ⟨ga, oa, none⟩) 3 ca := by
  obtain ⟨ga, oa, ca, T2, T3, y2, y3, rfl, _⟩ := h
  exact ⟨_, _, _, rfl⟩
theorem FiPost.from {err last : Bool} {s p : ByteArray} {x y : Scal} {w w1 w' : World} {e : Ending} (h : FiPost err last s p x y w1 e w') (hb : Below w.heap.size w w1) : FiPost err last s p x y w e w' := ⟨hb.trans (h.1.mono hb.size), h.2⟩
theorem assertIntNil (w : World) : (Instr.typeAssert .nilIface 77 120 true).run Tryz.prog w = .ok (.tuple #[.agg #[.int .i64 0, .pointer none], .bool false]) w := by kernel_rfl
/-- what impl.ofNumber makes of an answer -/
theorem ofNumber_some (i : Int) (w : World) (h1 : -1 ≤ i) (h2 : i ≤ 60) : Calls Tryz.prog 49 #[.iface 120 (.agg #[.int .i64 i, .pointer none]), .nilIface] w fun e w' => e = .returned (.tuple #[.int .i64 i, .bool true]) ∧ Below w.heap.size w w' := by
  have hta := assertIntOk
  have HB0 : Hid (Below w.heap.size w ((w.alloc (.cells #[.int .i64 i, .pointer none] 120)))) := (Below.refl _ _).alloc (Nat.le_refl _) _
  have C : Hid (∀ W, Calls Tryz.prog 85 #[.agg #[.int .i64 i, .pointer none]] W fun e w' => e = .returned (.tuple #[.int .i64 i, .bool true]) ∧ Below W.heap.size W w') := Lib.hid (fun W => int64Small_any i W (by omega) (by omega))
  clear h1 h2
  go_enter Tryz.func49, Tryz.ntmps49
  go_wp2_with fail
  refine (C.out _).mono ?_
  rintro e w1 ⟨rfl, hb1⟩
  have HB1 := Lib.hid (HB0.out.trans (hb1.mono HB0.out.size))
  clear hb1
  go_wp2_with fail
  go_ret2
  exact ⟨rfl, HB1.out⟩
theorem ofNumber_none (q : Option Addr) (w : World) : Calls Tryz.prog 49 #[.nilIface, .iface 229 (.pointer q)] w fun e w' => e = .returned (.tuple #[.int .i64 0, .bool false]) ∧ Below w.heap.size w w' := by
  have hta := assertIntNil
  have HB0 : Hid (Below w.heap.size w ((w.alloc (.cells #[.int .i64 0, .pointer none] 120)))) := (Below.refl _ _).alloc (Nat.le_refl _) _
  go_enter Tryz.func49, Tryz.ntmps49
  go_wp2_with fail
  go_ret2
  exact ⟨rfl, HB0.out⟩
set_option maxHeartbeats 1600000 in
theorem string_find_any (b : Nat) (nm : ByteArray) (kf : Nat) (s p : ByteArray) (x y : Scal) (v : Value) (w : World) (hs : s.size ≤ 60) (hp : p.size ≤ 60) (hm : Meth w b nm kf (.iface 96 (.string s))) (ha : FArgs w v p x y) (px : Pl x) (py : Pl y) :
    Calls Tryz.prog 87 #[.pointer none, .pointer (some ⟨b, 0, none⟩), v, .slice none 0 0] w (FiPost true false s p x y w) := by
  obtain ⟨ga, oa, ca, T2, T3, y2, y3, rfl, h1, h2, h3, h4, h5⟩ := ha
  have C := Lib.hid (findImpl_any true false b nm kf s p x y ga oa ca T2 T3 y2 y3 w hs hp hm h1 h2 h3 h4 h5 px py)
  clear hs hp hm h1 h2 h3 h4 h5 px py
  go_enter Tryz.func87, Tryz.ntmps87
  go_wp2_with fail
  refine C.out.mono ?_
  rintro e w1 ⟨hb, ⟨i, hr, h1, h2, rfl⟩ | ⟨hr, q, rfl⟩⟩
  · have HF : Hid (FiPost true false s p x y w (.returned (.tuple #[.iface 120 (.agg #[.int .i64 i, .pointer none]), .nilIface])) w1) := Lib.hid ⟨hb, .inl ⟨i, hr, h1, h2, rfl⟩⟩
    clear hb hr h1 h2 C
    go_wp2_with fail
    go_ret2
    exact HF.out
  · have HF : Hid (FiPost true false s p x y w (.returned (.tuple #[.nilIface, .iface 229 (.pointer (some ⟨q, 0, none⟩))])) w1) := Lib.hid ⟨hb, .inr ⟨hr, q, rfl⟩⟩
    clear hb hr C
    go_wp2_with fail
    go_ret2
    exact HF.out
set_option maxHeartbeats 1600000 in
theorem zzCall_string_find (nm : ByteArray) (s p : ByteArray) (x y : Scal) (v : Value) (w : World) (hs : s.size ≤ 60) (hp : p.size ≤ 60) (ha : FArgs w v p x y) (px : Pl x) (py : Pl y) :
    Calls Tryz.prog 86 #[.string nm, .func (.func 87) #[] #[], .string s, v] w (FiPost true false s p x y w) := by
  obtain ⟨ga, oa, ca, hv⟩ := ha.form
  have C : Hid (∀ b w', Below w.heap.size w w' → Meth w' b nm 87 (.iface 96 (.string s)) → Calls Tryz.prog 87 #[.pointer none, .pointer (some ⟨b, 0, none⟩), v, .slice none 0 0] w' (FiPost true false s p x y w)) := Lib.hid (fun b w' hb h => (string_find_any b nm _ s p x y v w' hs hp h (ha.below hb) px py).mono fun e w'' hf => hf.from hb)
  clear hs hp ha px py
  subst hv
  go_enter Tryz.func86, Tryz.ntmps86
  go_wp2_with fail
  refine (newBuiltin_m _ _ _).mono ?_
  rintro e w1 ⟨rfl, rfl⟩
  have hm : Meth (w.alloc (.cells #[.string nm, .func (.func 87) #[] #[], .nilIface] 148)) w.heap.size nm 87 .nilIface := Blk.new w _ [.string nm, .func (.func 87) #[] #[], .nilIface]
  have HB1 : Hid (Below w.heap.size w (w.alloc (.cells #[.string nm, .func (.func 87) #[] #[], .nilIface] 148))) := (Below.refl _ _).alloc (Nat.le_refl _) _
  have BD := Lib.hid (bind_any _ _ _ _ 96 (.string s) _ hm)
  clear hm
  go_wp2_with fail
  refine BD.out.mono ?_
  rintro e w2 ⟨b, rfl, hm, hb⟩
  have HC := Lib.hid (C.out _ _ (HB1.out.trans (hb.mono HB1.out.size)) hm)
  clear hm hb BD C HB1
  go_wp2_with fail
  refine HC.out.mono ?_
  rintro e w3 ⟨hb, ⟨i, hr, h1, h2, rfl⟩ | ⟨hr, q, rfl⟩⟩
  · have HF : Hid (FiPost true false s p x y w (.returned (.tuple #[.iface 120 (.agg #[.int .i64 i, .pointer none]), .nilIface])) w3) := Lib.hid ⟨hb, .inl ⟨i, hr, h1, h2, rfl⟩⟩
    clear hb hr h1 h2 HC
    go_wp2_with fail
    go_ret2
    exact HF.out
  · have HF : Hid (FiPost true false s p x y w (.returned (.tuple #[.nilIface, .iface 229 (.pointer (some ⟨q, 0, none⟩))])) w3) := Lib.hid ⟨hb, .inr ⟨hr, q, rfl⟩⟩
    clear hb hr HC
    go_wp2_with fail
    go_ret2
    exact HF.out
set_option maxHeartbeats 1600000 in
theorem ZzFind_any (s p : ByteArray) (x y : Scal) (v : Value) (w : World) (hs : s.size ≤ 60) (hp : p.size ≤ 60) (ha : FArgs w v p x y) (px : Pl x) (py : Pl y) :
    Calls Tryz.prog 50 #[.string s, v] w (FiPost true false s p x y w) := by
  obtain ⟨ga, oa, ca, hv⟩ := ha.form
  have C := Lib.hid (fun nm => zzCall_string_find nm s p x y v w hs hp ha px py)
  clear hs hp ha px py
  subst hv
  go_enter Tryz.func50, Tryz.ntmps50
  go_wp2_with fail
  refine (C.out _).mono ?_
  rintro e w3 ⟨hb, ⟨i, hr, h1, h2, rfl⟩ | ⟨hr, q, rfl⟩⟩
  · have HF : Hid (FiPost true false s p x y w (.returned (.tuple #[.iface 120 (.agg #[.int .i64 i, .pointer none]), .nilIface])) w3) := Lib.hid ⟨hb, .inl ⟨i, hr, h1, h2, rfl⟩⟩
    clear hb hr h1 h2 C
    go_wp2_with fail
    go_ret2
    exact HF.out
  · have HF : Hid (FiPost true false s p x y w (.returned (.tuple #[.nilIface, .iface 229 (.pointer (some ⟨q, 0, none⟩))])) w3) := Lib.hid ⟨hb, .inr ⟨hr, q, rfl⟩⟩
    clear hb hr C
    go_wp2_with fail
    go_ret2
    exact HF.out
set_option maxHeartbeats 1600000 in
theorem string_rfind_any (b : Nat) (nm : ByteArray) (kf : Nat) (s p : ByteArray) (x y : Scal) (v : Value) (w : World) (hs : s.size ≤ 60) (hp : p.size ≤ 60) (hm : Meth w b nm kf (.iface 96 (.string s))) (ha : FArgs w v p x y) (px : Pl x) (py : Pl y) :
    Calls Tryz.prog 88 #[.pointer none, .pointer (some ⟨b, 0, none⟩), v, .slice none 0 0] w (FiPost true true s p x y w) := by
  obtain ⟨ga, oa, ca, T2, T3, y2, y3, rfl, h1, h2, h3, h4, h5⟩ := ha
  have C := Lib.hid (findImpl_any true true b nm kf s p x y ga oa ca T2 T3 y2 y3 w hs hp hm h1 h2 h3 h4 h5 px py)
  clear hs hp hm h1 h2 h3 h4 h5 px py
  go_enter Tryz.func88, Tryz.ntmps88
  go_wp2_with fail
  refine C.out.mono ?_
  rintro e w1 ⟨hb, ⟨i, hr, h1, h2, rfl⟩ | ⟨hr, q, rfl⟩⟩
  · have HF : Hid (FiPost true true s p x y w (.returned (.tuple #[.iface 120 (.agg #[.int .i64 i, .pointer none]), .nilIface])) w1) := Lib.hid ⟨hb, .inl ⟨i, hr, h1, h2, rfl⟩⟩
    clear hb hr h1 h2 C
    go_wp2_with fail
    go_ret2
    exact HF.out
  · have HF : Hid (FiPost true true s p x y w (.returned (.tuple #[.nilIface, .iface 229 (.pointer (some ⟨q, 0, none⟩))])) w1) := Lib.hid ⟨hb, .inr ⟨hr, q, rfl⟩⟩
    clear hb hr C
    go_wp2_with fail
    go_ret2
    exact HF.out
set_option maxHeartbeats 1600000 in
theorem zzCall_string_rfind (nm : ByteArray) (s p : ByteArray) (x y : Scal) (v : Value) (w : World) (hs : s.size ≤ 60) (hp : p.size ≤ 60) (ha : FArgs w v p x y) (px : Pl x) (py : Pl y) :
    Calls Tryz.prog 86 #[.string nm, .func (.func 88) #[] #[], .string s, v] w (FiPost true true s p x y w) := by
  obtain ⟨ga, oa, ca, hv⟩ := ha.form
  have C : Hid (∀ b w', Below w.heap.size w w' → Meth w' b nm 88 (.iface 96 (.string s)) → Calls Tryz.prog 88 #[.pointer none, .pointer (some ⟨b, 0, none⟩), v, .slice none 0 0] w' (FiPost true true s p x y w)) := Lib.hid (fun b w' hb h => (string_rfind_any b nm _ s p x y v w' hs hp h (ha.below hb) px py).mono fun e w'' hf => hf.from hb)
  clear hs hp ha px py
  subst hv
  go_enter Tryz.func86, Tryz.ntmps86
  go_wp2_with fail
  refine (newBuiltin_m _ _ _).mono ?_
  rintro e w1 ⟨rfl, rfl⟩
  have hm : Meth (w.alloc (.cells #[.string nm, .func (.func 88) #[] #[], .nilIface] 148)) w.heap.size nm 88 .nilIface := Blk.new w _ [.string nm, .func (.func 88) #[] #[], .nilIface]
  have HB1 : Hid (Below w.heap.size w (w.alloc (.cells #[.string nm, .func (.func 88) #[] #[], .nilIface] 148))) := (Below.refl _ _).alloc (Nat.le_refl _) _
  have BD := Lib.hid (bind_any _ _ _ _ 96 (.string s) _ hm)
  clear hm
  go_wp2_with fail
  refine BD.out.mono ?_
  rintro e w2 ⟨b, rfl, hm, hb⟩
  have HC := Lib.hid (C.out _ _ (HB1.out.trans (hb.mono HB1.out.size)) hm)
  clear hm hb BD C HB1
  go_wp2_with fail
  refine HC.out.mono ?_
  rintro e w3 ⟨hb, ⟨i, hr, h1, h2, rfl⟩ | ⟨hr, q, rfl⟩⟩
  · have HF : Hid (FiPost true true s p x y w (.returned (.tuple #[.iface 120 (.agg #[.int .i64 i, .pointer none]), .nilIface])) w3) := Lib.hid ⟨hb, .inl ⟨i, hr, h1, h2, rfl⟩⟩
    clear hb hr h1 h2 HC
    go_wp2_with fail
    go_ret2
    exact HF.out
  · have HF : Hid (FiPost true true s p x y w (.returned (.tuple #[.nilIface, .iface 229 (.pointer (some ⟨q, 0, none⟩))])) w3) := Lib.hid ⟨hb, .inr ⟨hr, q, rfl⟩⟩
    clear hb hr HC
    go_wp2_with fail
    go_ret2
    exact HF.out
set_option maxHeartbeats 1600000 in
theorem ZzRfind_any (s p : ByteArray) (x y : Scal) (v : Value) (w : World) (hs : s.size ≤ 60) (hp : p.size ≤ 60) (ha : FArgs w v p x y) (px : Pl x) (py : Pl y) :
    Calls Tryz.prog 51 #[.string s, v] w (FiPost true true s p x y w) := by
  obtain ⟨ga, oa, ca, hv⟩ := ha.form
  have C := Lib.hid (fun nm => zzCall_string_rfind nm s p x y v w hs hp ha px py)
  clear hs hp ha px py
  subst hv
  go_enter Tryz.func51, Tryz.ntmps51
  go_wp2_with fail
  refine (C.out _).mono ?_
  rintro e w3 ⟨hb, ⟨i, hr, h1, h2, rfl⟩ | ⟨hr, q, rfl⟩⟩
  · have HF : Hid (FiPost true true s p x y w (.returned (.tuple #[.iface 120 (.agg #[.int .i64 i, .pointer none]), .nilIface])) w3) := Lib.hid ⟨hb, .inl ⟨i, hr, h1, h2, rfl⟩⟩
    clear hb hr h1 h2 C
    go_wp2_with fail
    go_ret2
    exact HF.out
  · have HF : Hid (FiPost true true s p x y w (.returned (.tuple #[.nilIface, .iface 229 (.pointer (some ⟨q, 0, none⟩))])) w3) := Lib.hid ⟨hb, .inr ⟨hr, q, rfl⟩⟩
    clear hb hr C
    go_wp2_with fail
    go_ret2
    exact HF.out
set_option maxHeartbeats 1600000 in
theorem string_index_any (b : Nat) (nm : ByteArray) (kf : Nat) (s p : ByteArray) (x y : Scal) (v : Value) (w : World) (hs : s.size ≤ 60) (hp : p.size ≤ 60) (hm : Meth w b nm kf (.iface 96 (.string s))) (ha : FArgs w v p x y) (px : Pl x) (py : Pl y) :
    Calls Tryz.prog 89 #[.pointer none, .pointer (some ⟨b, 0, none⟩), v, .slice none 0 0] w (FiPost false false s p x y w) := by
  obtain ⟨ga, oa, ca, T2, T3, y2, y3, rfl, h1, h2, h3, h4, h5⟩ := ha
  have C := Lib.hid (findImpl_any false false b nm kf s p x y ga oa ca T2 T3 y2 y3 w hs hp hm h1 h2 h3 h4 h5 px py)
  clear hs hp hm h1 h2 h3 h4 h5 px py
  go_enter Tryz.func89, Tryz.ntmps89
  go_wp2_with fail
  refine C.out.mono ?_
  rintro e w1 ⟨hb, ⟨i, hr, h1, h2, rfl⟩ | ⟨hr, q, rfl⟩⟩
  · have HF : Hid (FiPost false false s p x y w (.returned (.tuple #[.iface 120 (.agg #[.int .i64 i, .pointer none]), .nilIface])) w1) := Lib.hid ⟨hb, .inl ⟨i, hr, h1, h2, rfl⟩⟩
    clear hb hr h1 h2 C
    go_wp2_with fail
    go_ret2
    exact HF.out
  · have HF : Hid (FiPost false false s p x y w (.returned (.tuple #[.nilIface, .iface 229 (.pointer (some ⟨q, 0, none⟩))])) w1) := Lib.hid ⟨hb, .inr ⟨hr, q, rfl⟩⟩
    clear hb hr C
    go_wp2_with fail
    go_ret2
    exact HF.out
set_option maxHeartbeats 1600000 in
theorem zzCall_string_index (nm : ByteArray) (s p : ByteArray) (x y : Scal) (v : Value) (w : World) (hs : s.size ≤ 60) (hp : p.size ≤ 60) (ha : FArgs w v p x y) (px : Pl x) (py : Pl y) :
    Calls Tryz.prog 86 #[.string nm, .func (.func 89) #[] #[], .string s, v] w (FiPost false false s p x y w) := by
  obtain ⟨ga, oa, ca, hv⟩ := ha.form
  have C : Hid (∀ b w', Below w.heap.size w w' → Meth w' b nm 89 (.iface 96 (.string s)) → Calls Tryz.prog 89 #[.pointer none, .pointer (some ⟨b, 0, none⟩), v, .slice none 0 0] w' (FiPost false false s p x y w)) := Lib.hid (fun b w' hb h => (string_index_any b nm _ s p x y v w' hs hp h (ha.below hb) px py).mono fun e w'' hf => hf.from hb)
  clear hs hp ha px py
  subst hv
  go_enter Tryz.func86, Tryz.ntmps86
  go_wp2_with fail
  refine (newBuiltin_m _ _ _).mono ?_
  rintro e w1 ⟨rfl, rfl⟩
  have hm : Meth (w.alloc (.cells #[.string nm, .func (.func 89) #[] #[], .nilIface] 148)) w.heap.size nm 89 .nilIface := Blk.new w _ [.string nm, .func (.func 89) #[] #[], .nilIface]
  have HB1 : Hid (Below w.heap.size w (w.alloc (.cells #[.string nm, .func (.func 89) #[] #[], .nilIface] 148))) := (Below.refl _ _).alloc (Nat.le_refl _) _
  have BD := Lib.hid (bind_any _ _ _ _ 96 (.string s) _ hm)
  clear hm
  go_wp2_with fail
  refine BD.out.mono ?_
  rintro e w2 ⟨b, rfl, hm, hb⟩
  have HC := Lib.hid (C.out _ _ (HB1.out.trans (hb.mono HB1.out.size)) hm)
  clear hm hb BD C HB1
  go_wp2_with fail
  refine HC.out.mono ?_
  rintro e w3 ⟨hb, ⟨i, hr, h1, h2, rfl⟩ | ⟨hr, q, rfl⟩⟩
  · have HF : Hid (FiPost false false s p x y w (.returned (.tuple #[.iface 120 (.agg #[.int .i64 i, .pointer none]), .nilIface])) w3) := Lib.hid ⟨hb, .inl ⟨i, hr, h1, h2, rfl⟩⟩
    clear hb hr h1 h2 HC
    go_wp2_with fail
    go_ret2
    exact HF.out
  · have HF : Hid (FiPost false false s p x y w (.returned (.tuple #[.nilIface, .iface 229 (.pointer (some ⟨q, 0, none⟩))])) w3) := Lib.hid ⟨hb, .inr ⟨hr, q, rfl⟩⟩
    clear hb hr HC
    go_wp2_with fail
    go_ret2
    exact HF.out
set_option maxHeartbeats 1600000 in
theorem ZzIndex_any (s p : ByteArray) (x y : Scal) (v : Value) (w : World) (hs : s.size ≤ 60) (hp : p.size ≤ 60) (ha : FArgs w v p x y) (px : Pl x) (py : Pl y) :
    Calls Tryz.prog 52 #[.string s, v] w (FiPost false false s p x y w) := by
  obtain ⟨ga, oa, ca, hv⟩ := ha.form
  have C := Lib.hid (fun nm => zzCall_string_index nm s p x y v w hs hp ha px py)
  clear hs hp ha px py
  subst hv
  go_enter Tryz.func52, Tryz.ntmps52
  go_wp2_with fail
  refine (C.out _).mono ?_
  rintro e w3 ⟨hb, ⟨i, hr, h1, h2, rfl⟩ | ⟨hr, q, rfl⟩⟩
  · have HF : Hid (FiPost false false s p x y w (.returned (.tuple #[.iface 120 (.agg #[.int .i64 i, .pointer none]), .nilIface])) w3) := Lib.hid ⟨hb, .inl ⟨i, hr, h1, h2, rfl⟩⟩
    clear hb hr h1 h2 C
    go_wp2_with fail
    go_ret2
    exact HF.out
  · have HF : Hid (FiPost false false s p x y w (.returned (.tuple #[.nilIface, .iface 229 (.pointer (some ⟨q, 0, none⟩))])) w3) := Lib.hid ⟨hb, .inr ⟨hr, q, rfl⟩⟩
    clear hb hr C
    go_wp2_with fail
    go_ret2
    exact HF.out
set_option maxHeartbeats 1600000 in
theorem string_rindex_any (b : Nat) (nm : ByteArray) (kf : Nat) (s p : ByteArray) (x y : Scal) (v : Value) (w : World) (hs : s.size ≤ 60) (hp : p.size ≤ 60) (hm : Meth w b nm kf (.iface 96 (.string s))) (ha : FArgs w v p x y) (px : Pl x) (py : Pl y) :
    Calls Tryz.prog 90 #[.pointer none, .pointer (some ⟨b, 0, none⟩), v, .slice none 0 0] w (FiPost false true s p x y w) := by
  obtain ⟨ga, oa, ca, T2, T3, y2, y3, rfl, h1, h2, h3, h4, h5⟩ := ha
  have C := Lib.hid (findImpl_any false true b nm kf s p x y ga oa ca T2 T3 y2 y3 w hs hp hm h1 h2 h3 h4 h5 px py)
  clear hs hp hm h1 h2 h3 h4 h5 px py
  go_enter Tryz.func90, Tryz.ntmps90
  go_wp2_with fail
  refine C.out.mono ?_
  rintro e w1 ⟨hb, ⟨i, hr, h1, h2, rfl⟩ | ⟨hr, q, rfl⟩⟩
  · have HF : Hid (FiPost false true s p x y w (.returned (.tuple #[.iface 120 (.agg #[.int .i64 i, .pointer none]), .nilIface])) w1) := Lib.hid ⟨hb, .inl ⟨i, hr, h1, h2, rfl⟩⟩
    clear hb hr h1 h2 C
    go_wp2_with fail
    go_ret2
    exact HF.out
  · have HF : Hid (FiPost false true s p x y w (.returned (.tuple #[.nilIface, .iface 229 (.pointer (some ⟨q, 0, none⟩))])) w1) := Lib.hid ⟨hb, .inr ⟨hr, q, rfl⟩⟩
    clear hb hr C
    go_wp2_with fail
    go_ret2
    exact HF.out
set_option maxHeartbeats 1600000 in
theorem zzCall_string_rindex (nm : ByteArray) (s p : ByteArray) (x y : Scal) (v : Value) (w : World) (hs : s.size ≤ 60) (hp : p.size ≤ 60) (ha : FArgs w v p x y) (px : Pl x) (py : Pl y) :
    Calls Tryz.prog 86 #[.string nm, .func (.func 90) #[] #[], .string s, v] w (FiPost false true s p x y w) := by
  obtain ⟨ga, oa, ca, hv⟩ := ha.form
  have C : Hid (∀ b w', Below w.heap.size w w' → Meth w' b nm 90 (.iface 96 (.string s)) → Calls Tryz.prog 90 #[.pointer none, .pointer (some ⟨b, 0, none⟩), v, .slice none 0 0] w' (FiPost false true s p x y w)) := Lib.hid (fun b w' hb h => (string_rindex_any b nm _ s p x y v w' hs hp h (ha.below hb) px py).mono fun e w'' hf => hf.from hb)
  clear hs hp ha px py
  subst hv
  go_enter Tryz.func86, Tryz.ntmps86
  go_wp2_with fail
  refine (newBuiltin_m _ _ _).mono ?_
  rintro e w1 ⟨rfl, rfl⟩
  have hm : Meth (w.alloc (.cells #[.string nm, .func (.func 90) #[] #[], .nilIface] 148)) w.heap.size nm 90 .nilIface := Blk.new w _ [.string nm, .func (.func 90) #[] #[], .nilIface]
  have HB1 : Hid (Below w.heap.size w (w.alloc (.cells #[.string nm, .func (.func 90) #[] #[], .nilIface] 148))) := (Below.refl _ _).alloc (Nat.le_refl _) _
  have BD := Lib.hid (bind_any _ _ _ _ 96 (.string s) _ hm)
  clear hm
  go_wp2_with fail
  refine BD.out.mono ?_
  rintro e w2 ⟨b, rfl, hm, hb⟩
  have HC := Lib.hid (C.out _ _ (HB1.out.trans (hb.mono HB1.out.size)) hm)
  clear hm hb BD C HB1
  go_wp2_with fail
  refine HC.out.mono ?_
  rintro e w3 ⟨hb, ⟨i, hr, h1, h2, rfl⟩ | ⟨hr, q, rfl⟩⟩
  · have HF : Hid (FiPost false true s p x y w (.returned (.tuple #[.iface 120 (.agg #[.int .i64 i, .pointer none]), .nilIface])) w3) := Lib.hid ⟨hb, .inl ⟨i, hr, h1, h2, rfl⟩⟩
    clear hb hr h1 h2 HC
    go_wp2_with fail
    go_ret2
    exact HF.out
  · have HF : Hid (FiPost false true s p x y w (.returned (.tuple #[.nilIface, .iface 229 (.pointer (some ⟨q, 0, none⟩))])) w3) := Lib.hid ⟨hb, .inr ⟨hr, q, rfl⟩⟩
    clear hb hr HC
    go_wp2_with fail
    go_ret2
    exact HF.out
set_option maxHeartbeats 1600000 in
theorem ZzRindex_any (s p : ByteArray) (x y : Scal) (v : Value) (w : World) (hs : s.size ≤ 60) (hp : p.size ≤ 60) (ha : FArgs w v p x y) (px : Pl x) (py : Pl y) :
    Calls Tryz.prog 53 #[.string s, v] w (FiPost false true s p x y w) := by
  obtain ⟨ga, oa, ca, hv⟩ := ha.form
  have C := Lib.hid (fun nm => zzCall_string_rindex nm s p x y v w hs hp ha px py)
  clear hs hp ha px py
  subst hv
  go_enter Tryz.func53, Tryz.ntmps53
  go_wp2_with fail
  refine (C.out _).mono ?_
  rintro e w3 ⟨hb, ⟨i, hr, h1, h2, rfl⟩ | ⟨hr, q, rfl⟩⟩
  · have HF : Hid (FiPost false true s p x y w (.returned (.tuple #[.iface 120 (.agg #[.int .i64 i, .pointer none]), .nilIface])) w3) := Lib.hid ⟨hb, .inl ⟨i, hr, h1, h2, rfl⟩⟩
    clear hb hr h1 h2 C
    go_wp2_with fail
    go_ret2
    exact HF.out
  · have HF : Hid (FiPost false true s p x y w (.returned (.tuple #[.nilIface, .iface 229 (.pointer (some ⟨q, 0, none⟩))])) w3) := Lib.hid ⟨hb, .inr ⟨hr, q, rfl⟩⟩
    clear hb hr C
    go_wp2_with fail
    go_ret2
    exact HF.out
end Go.Proofs.YtoggalnjjhcmkaaGreat
