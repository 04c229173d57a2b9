/- impl.bounds, starlark.chr, impl.Chr. -/
import Derived.Test.YthnmkbdeoahiaaaScalars
import Derived.Test.YthnmkbdeoahiaaaAsInt
namespace Go.Proofs.Ythnmkbdeoahiaaa
open Go.RowKit Dig
set_option linter.unusedVariables false
set_option linter.unusedSimpArgs false
set_option maxRecDepth 100000

theorem bounds_any (xs : List Scal) (v : Value) (w : World) (hv : VaL w w.heap.size v xs) (hok : ∀ x ∈ xs, x.ok) (hlen : xs.length ≤ 1048576) : Calls Try.prog 26 #[v] w (ScsPost xs w) := by
  have C := Lib.hid (scalars_any xs v w hv hok hlen)
  clear hv hok
  go_enter Try.func26, Try.ntmps26
  go_wp2_with fail
  refine C.out.mono ?_
  rintro e w1 ⟨a, c, rfl, hs, hb⟩
  have HS := Lib.hid hs; have HB := Lib.hid hb
  clear hs hb
  go_wp2_with fail
  go_ret2
  exact ⟨a, c, rfl, HS.out, HB.out⟩
/-- one value in a slice -/
theorem SvL.one {w : World} {B : Nat} {v : Value} {i : Int} (h : SvL w B v [.int i]) : ∃ b o c s q, v = .slice (some ⟨b, o, none⟩) 1 c ∧ 1 ≤ c ∧ b < B ∧ w.cell? ⟨b, o, none⟩ = some (.iface 70 (.agg #[.int .i64 s, .pointer q])) ∧ In w B (.agg #[.int .i64 s, .pointer q]) i := by
  obtain ⟨us, hl, h1, a, c, rfl, hc, hr⟩ := h
  obtain ⟨T, y, h2, s, q, h3, h4⟩ := h1 0 (.int i) rfl
  have hne : us ≠ [] := by intro h; rw [h] at h2; simp at h2
  obtain ⟨b, o, rfl, hb, hrd⟩ := hr hne
  have h5 := hrd 0 (List.length_pos_iff.2 hne)
  rw [List.getD_eq_getElem?_getD, h2, Option.getD_some, Nat.add_zero, h3] at h5
  have hl1 : us.length = 1 := hl
  exact ⟨b, o, c, s, q, by rw [hl1], by omega, hb, h5, h4⟩
/-- whether an integer is a code point's number -/
def cpB (i : Int) : Bool := decide (0 ≤ i ∧ i ≤ 1114111)
/-- a text and no error, or an error -/
def ChrPost (i : Int) (w : World) (e : Ending) (w' : World) : Prop :=
  Below w.heap.size w w' ∧ ((cpB i = true ∧ e = .returned (.tuple #[.iface 63 (.string (Utf8.encode i)), .nilIface])) ∨ (cpB i = false ∧ ∃ b, e = .returned (.tuple #[.nilIface, .iface 127 (.pointer (some ⟨b, 0, none⟩))])))
set_option maxHeartbeats 1600000 in
theorem chr_any (i : Int) (v : Value) (w : World) (hv : SvL w w.heap.size v [.int i]) :
    Calls Try.prog 47 #[.pointer none, .pointer none, v, .slice none 0 0] w (ChrPost i w) := by
  obtain ⟨b, o, c, s, q, rfl, hc, hb, hcell, hin⟩ := hv.one
  have C := Lib.hid (asInt32_any _ i _ hin)
  have CT : Hid (0 ≤ i → i ≤ 1114111 → cpB i = true) := Lib.hid (fun h1 h2 => by unfold cpB; simp; omega)
  have CF : Hid (i < 0 ∨ 1114111 < i → cpB i = false) := Lib.hid (fun h => by unfold cpB; simp; omega)
  clear hv hin
  go_enter Try.func47, Try.ntmps47
  go_wp2_with fail
  refine C.out.mono ?_
  rintro e w1 ⟨hb1, hc1⟩
  have HB := Lib.hid hb1
  clear hb1 hcell
  rcases hc1 with ⟨h1, h2, rfl⟩ | ⟨h0, b2, rfl⟩
  · rcases Int.lt_or_le i 0 with hlt | hge
    · have F := Lib.hid (CF.out (.inl hlt))
      clear CT CF C
      go_wp2_with fail
      refine (errNew_any _ _).mono ?_
      rintro e w2 ⟨b3, rfl, hb2⟩
      have HB2 := Lib.hid (HB.out.trans (hb2.mono HB.out.size))
      clear hb2
      go_wp2_with fail
      go_ret2
      exact ⟨HB2.out, .inr ⟨F.out, b3, rfl⟩⟩
    · rcases Int.lt_or_le 1114111 i with hgt | hle
      · have F := Lib.hid (CF.out (.inr hgt))
        clear CT CF C
        go_wp2_with fail
        refine (errNew_any _ _).mono ?_
        rintro e w2 ⟨b3, rfl, hb2⟩
        have HB2 := Lib.hid (HB.out.trans (hb2.mono HB.out.size))
        clear hb2
        go_wp2_with fail
        go_ret2
        exact ⟨HB2.out, .inr ⟨F.out, b3, rfl⟩⟩
      · have F := Lib.hid (CT.out hge hle)
        clear CT CF C
        go_wp2_with fail
        go_ret2
        exact ⟨HB.out, .inl ⟨F.out, rfl⟩⟩
  · have F := Lib.hid (CF.out (by omega))
    clear CT CF C h0
    go_wp2_with fail
    refine (errNew_any _ _).mono ?_
    rintro e w2 ⟨b3, rfl, hb2⟩
    have HB2 := Lib.hid (HB.out.trans (hb2.mono HB.out.size))
    clear hb2
    go_wp2_with fail
    go_ret2
    exact ⟨HB2.out, .inr ⟨F.out, b3, rfl⟩⟩
set_option maxHeartbeats 1600000 in
theorem zzChr_any (i : Int) (v : Value) (w : World) (hv : SvL w w.heap.size v [.int i]) :
    Calls Try.prog 28 #[v] w (ChrPost i w) := by
  have C := Lib.hid (chr_any i v w hv)
  clear hv
  go_enter Try.func28, Try.ntmps28
  go_wp2_with fail
  refine C.out.mono ?_
  rintro e w1 ⟨hb1, h | h⟩
  · obtain ⟨h0, rfl⟩ := h
    have HB := Lib.hid hb1; have H0 := Lib.hid h0
    clear hb1 h0 C
    go_wp2_with fail
    go_ret2
    exact ⟨HB.out, .inl ⟨H0.out, rfl⟩⟩
  · obtain ⟨h0, b, rfl⟩ := h
    have HB := Lib.hid hb1; have H0 := Lib.hid h0
    clear hb1 h0 C
    go_wp2_with fail
    go_ret2
    exact ⟨HB.out, .inr ⟨H0.out, b, rfl⟩⟩
theorem textOk (s : ByteArray) (w : World) : (Instr.typeAssert (.iface 63 (.string s)) 57 63 true).run Try.prog w = .ok (.tuple #[.string s, .bool true]) w := by kernel_rfl
theorem textNil (w : World) : (Instr.typeAssert .nilIface 57 63 true).run Try.prog w = .ok (.tuple #[.string ByteArray.empty, .bool false]) w := by kernel_rfl
theorem ofText_yes (s : ByteArray) (w : World) : Calls Try.prog 27 #[.iface 63 (.string s), .nilIface] w fun e w' => e = .returned (.tuple #[.string s, .bool true]) ∧ w = w' := by
  have h := textOk s
  go_enter Try.func27, Try.ntmps27
  go_wp2_with fail
  go_ret2
  exact ⟨rfl, rfl⟩
theorem ofText_no (T : TypeId) (b : Nat) (w : World) : Calls Try.prog 27 #[.nilIface, .iface 127 (.pointer (some ⟨b, 0, none⟩))] w fun e w' => e = .returned (.tuple #[.string ByteArray.empty, .bool false]) ∧ w = w' := by
  have h := textNil
  go_enter Try.func27, Try.ntmps27
  go_wp2_with fail
  go_ret2
  exact ⟨rfl, rfl⟩
/-- what impl.Chr tells -/
def ImplChrPost (i : Int) (w : World) (e : Ending) (w' : World) : Prop :=
  e = .returned (.tuple #[.string (if cpB i then Utf8.encode i else ByteArray.empty), .bool (cpB i), .bool true]) ∧ Below w.heap.size w w'
theorem VaL.one {w : World} {n : Bool} {a : Option Addr} {k c : Nat} {i : Int} (h : Va w w.heap.size (.agg #[.int .i64 2, .bool n, .slice a k c, .int .u64 0, .string ByteArray.empty, .slice none 0 0]) i) :
    VaL (w.alloc (.cells #[.int .i64 2, .bool n, .slice a k c, .int .u64 0, .string ByteArray.empty, .slice none 0 0] 28)) (w.heap.size + 1) (.slice (some ⟨w.heap.size, 0, none⟩) 1 1) [.int i] := by
  have hb : Below w.heap.size w (w.alloc (.cells #[.int .i64 2, .bool n, .slice a k c, .int .u64 0, .string ByteArray.empty, .slice none 0 0] 28)) := (Below.refl _ _).alloc (Nat.le_refl _) _
  refine ⟨_, 1, rfl, Nat.le_refl _, fun _ => ⟨_, 0, rfl, by omega, fun k x hx => ?_⟩⟩
  cases k with
  | zero =>
    simp at hx
    subst hx
    have g := val_cells (Blk.new w 28 [.int .i64 2, .bool n, .slice a k c, .int .u64 0, .string ByteArray.empty, .slice none 0 0])
    exact ⟨n, a, _, c, _, by exact g, (Va.below h hb).more (by omega)⟩
  | succ k => simp at hx
set_option maxHeartbeats 1600000 in
theorem implChr_any (i : Int) (v : Value) (w : World) (hv : Va w w.heap.size v i) (hi : i.natAbs < lim) : Calls Try.prog 10 #[v] w (ImplChrPost i w) := by
  obtain ⟨n, a, k, c, rfl⟩ := hv.parts
  have hb0 : Below w.heap.size w (w.alloc (.cells #[.int .i64 2, .bool n, .slice a k c, .int .u64 0, .string ByteArray.empty, .slice none 0 0] 28)) := (Below.refl _ _).alloc (Nat.le_refl _) _
  have hl := VaL.one ((hv.below hb0).more hb0.size)
  have hb1 := hb0.alloc hb0.size (.cells #[.int .i64 2, .bool n, .slice a k c, .int .u64 0, .string ByteArray.empty, .slice none 0 0] 28)
  simp only [World.size_alloc] at hl
  have C := Lib.hid (bounds_any [.int i] (.slice (some ⟨w.heap.size + 1, 0, none⟩) 1 1) ((w.alloc (.cells #[.int .i64 2, .bool n, .slice a k c, .int .u64 0, .string ByteArray.empty, .slice none 0 0] 28)).alloc (.cells #[.int .i64 2, .bool n, .slice a k c, .int .u64 0, .string ByteArray.empty, .slice none 0 0] 28)) (by simpa using hl) (by intro x hx; simp at hx; subst hx; exact hi) (by simp))
  have HB := Lib.hid hb1
  clear hv hi hb0 hl hb1
  go_enter Try.func10, Try.ntmps10
  go_wp2_with fail
  refine C.out.mono ?_
  rintro e w1 ⟨a1, c1, rfl, hs, hb⟩
  have Z := Lib.hid (zzChr_any i _ _ hs)
  have HB1 := Lib.hid (HB.out.trans (hb.mono HB.out.size))
  clear hs hb C
  simp only [List.length_cons, List.length_nil, Nat.zero_add] at Z ⊢
  go_wp2_with fail
  refine Z.out.mono ?_
  rintro e w2 ⟨hb2, ⟨h0, rfl⟩ | ⟨h0, b, rfl⟩⟩
  · have HB2 := Lib.hid (HB1.out.trans (hb2.mono HB1.out.size)); have H0 := Lib.hid h0
    clear hb2 h0 Z
    go_wp2_with fail
    refine (ofText_yes _ _).mono ?_
    rintro e w3 ⟨rfl, rfl⟩
    go_wp2_with fail
    go_ret3
    exact ⟨by rw [H0.out]; rfl, HB2.out⟩
  · have HB2 := Lib.hid (HB1.out.trans (hb2.mono HB1.out.size)); have H0 := Lib.hid h0
    clear hb2 h0 Z
    go_wp2_with fail
    refine (ofText_no 0 _ _).mono ?_
    rintro e w3 ⟨rfl, rfl⟩
    go_wp2_with fail
    go_ret3
    exact ⟨by rw [H0.out]; rfl, HB2.out⟩
end Go.Proofs.Ythnmkbdeoahiaaa
