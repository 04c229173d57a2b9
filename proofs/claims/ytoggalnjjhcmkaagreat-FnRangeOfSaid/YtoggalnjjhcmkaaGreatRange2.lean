/- starlark.range_, ZzRange, impl.RangeOf. -/
import Derived.Test.YtoggalnjjhcmkaaGreatRange
import Derived.Test.YtoggalnjjhcmkaaGreatBuiltin
namespace Go.Proofs.YtoggalnjjhcmkaaGreat
open Go.RowKit Dig
set_option linter.unusedVariables false
set_option linter.unusedSimpArgs false
set_option maxRecDepth 100000

/-- start, stop and step of the range that arguments ask for; none: refused -/
def rg : List Scal → Option (Int × Int × Int)
  | [.int a] => some (0, a, 1)
  | [.int a, .int b] => some (a, b, 1)
  | [.int a, .int b, .int c] => if c = 0 then none else some (a, b, c)
  | _ => none
/-- what range answers -/
def RgPost (xs : List Scal) (w : World) (e : Ending) (w' : World) : Prop :=
  Below w.heap.size w w' ∧ ((∃ a b c, rg xs = some (a, b, c) ∧ e = .returned (.tuple #[.iface 108 (.agg #[.int .i64 a, .int .i64 b, .int .i64 c, .int .i64 (cnt a b c)]), .nilIface])) ∨
    (rg xs = none ∧ ∃ b, e = .returned (.tuple #[.nilIface, .iface 229 (.pointer (some ⟨b, 0, none⟩))])))
theorem Vars.three {h : Nat} {x y z : Int} {w : World} (v : Vars h [x, y, z] w) :
    w.cell? ⟨h, 0, none⟩ = some (.int .i64 x) ∧ w.cell? ⟨h + 1, 0, none⟩ = some (.int .i64 y) ∧ w.cell? ⟨h + 1 + 1, 0, none⟩ = some (.int .i64 z) ∧ w.frozen? ⟨h, 0, none⟩ = false ∧ w.frozen? ⟨h + 1, 0, none⟩ = false ∧ h < w.heap.size ∧ h + 1 < w.heap.size := by
  have v0 := v.2 0 (by simp)
  have v1 := v.2 1 (by simp)
  have v2 := v.2 2 (by simp)
  exact ⟨v0.cell 0 (by simp), v1.cell 0 (by simp), v2.cell 0 (by simp), v0.free 0, v1.free 0, v0.lt, v1.lt⟩
theorem vars_new (w : World) : Vars w.heap.size [0, 0, 1] ((((w.alloc (.cells #[.int .i64 0] 3)).alloc (.cells #[.int .i64 0] 3)).alloc (.cells #[.int .i64 1] 3)).alloc (.cells #[.iface 145 (.pointer (some ⟨w.heap.size, 0, none⟩)), .iface 145 (.pointer (some ⟨w.heap.size + 1, 0, none⟩)), .iface 145 (.pointer (some ⟨w.heap.size + 1 + 1, 0, none⟩))] 20)) := by
  have b0 := Blk.new w 3 [.int .i64 0]
  have b1 := Blk.new (w.alloc (.cells #[.int .i64 0] 3)) 3 [.int .i64 0]
  have b2 := Blk.new ((w.alloc (.cells #[.int .i64 0] 3)).alloc (.cells #[.int .i64 0] 3)) 3 [.int .i64 1]
  have b3 := Blk.new (((w.alloc (.cells #[.int .i64 0] 3)).alloc (.cells #[.int .i64 0] 3)).alloc (.cells #[.int .i64 1] 3)) 20 [.iface 145 (.pointer (some ⟨w.heap.size, 0, none⟩)), .iface 145 (.pointer (some ⟨w.heap.size + 1, 0, none⟩)), .iface 145 (.pointer (some ⟨w.heap.size + 1 + 1, 0, none⟩))]
  refine ⟨by simpa [List.range, List.range.loop] using b3, fun j hj => ?_⟩
  match j, hj with
  | 0, _ => exact ((b0.alloc _).alloc _).alloc _
  | 1, _ => simpa using (b1.alloc (.cells #[.int .i64 1] 3)).alloc (.cells #[.iface 145 (.pointer (some ⟨w.heap.size, 0, none⟩)), .iface 145 (.pointer (some ⟨w.heap.size + 1, 0, none⟩)), .iface 145 (.pointer (some ⟨w.heap.size + 1 + 1, 0, none⟩))] 20)
  | 2, _ => simpa using b2.alloc (.cells #[.iface 145 (.pointer (some ⟨w.heap.size, 0, none⟩)), .iface 145 (.pointer (some ⟨w.heap.size + 1, 0, none⟩)), .iface 145 (.pointer (some ⟨w.heap.size + 1 + 1, 0, none⟩))] 20)
theorem rg_none {xs : List Scal} (h : xs.all isInt = false) : rg xs = none := by
  have : ¬ xs.all isInt = true := by rw [h]; simp
  match xs, this with
  | [], h => rfl
  | [.int a], h => simp [isInt] at h
  | [.int a, .int b], h => simp [isInt] at h
  | [.int a, .int b, .int c], h => simp [isInt] at h
  | .non :: _, _ => rfl
  | .str _ :: _, _ => rfl
  | .int _ :: .non :: _, _ => rfl
  | .int _ :: .str _ :: _, _ => rfl
  | .int _ :: .int _ :: .non :: _, _ => rfl
  | .int _ :: .int _ :: .str _ :: _, _ => rfl
  | .int _ :: .int _ :: .int _ :: _ :: _, _ => rfl
set_option maxHeartbeats 3200000 in
theorem range_any (xs : List Scal) (p : Value) (a : Option Addr) (c : Nat) (w : World) (hxs : SvL w w.heap.size (.slice a xs.length c) xs) (hsm : ∀ x ∈ xs, Sm x) (h1 : 1 ≤ xs.length) (h3 : xs.length ≤ 3) :
    Calls Tryz.prog 58 #[.pointer none, p, .slice a xs.length c, .slice none 0 0] w (RgPost xs w) := by
  obtain ⟨W0, hW0⟩ : ∃ W0, W0 = ((((w.alloc (.cells #[.int .i64 0] 3)).alloc (.cells #[.int .i64 0] 3)).alloc (.cells #[.int .i64 1] 3)).alloc (.cells #[.iface 145 (.pointer (some ⟨w.heap.size, 0, none⟩)), .iface 145 (.pointer (some ⟨w.heap.size + 1, 0, none⟩)), .iface 145 (.pointer (some ⟨w.heap.size + 1 + 1, 0, none⟩))] 20)) := ⟨_, rfl⟩
  have hb0 : Below w.heap.size w W0 := by rw [hW0]; exact ((((Below.refl _ _).alloc (Nat.le_refl _) _).alloc (by simp) _).alloc (by simp; omega) _).alloc (by simp; omega) _
  have hv : Vars w.heap.size [0, 0, 1] W0 := by rw [hW0]; exact vars_new w
  have C : Hid (∀ s, Calls Tryz.prog 94 #[.string s, .slice a xs.length c, .slice none 0 0, .int .i64 1, .slice (some ⟨w.heap.size + 1 + 1 + 1, 0, none⟩) 3 3] W0 (UpPost xs [0, 0, 1] w.heap.size W0)) := Lib.hid (fun s => unpackInts_any s xs [0, 0, 1] a c w.heap.size 1 W0 (hxs.below hb0) hsm hv h1 h3 (by simp))
  have HS := Lib.hid hsm; have HB0 := Lib.hid hb0
  obtain ⟨n, hn⟩ : ∃ n, n = xs.length := ⟨_, rfl⟩
  rw [← hn] at C ⊢
  have HN := Lib.hid hn
  have HL : Hid (1 ≤ xs.length ∧ xs.length ≤ 3) := Lib.hid ⟨h1, h3⟩
  clear hxs hsm hv hb0 h1 h3 hn
  have EN : Hid (∀ a b W, Below w.heap.size w W → Calls Tryz.prog 95 #[a, b] W (fun e w' => ∃ b, e = .returned (.iface 229 (.pointer (some ⟨b, 0, none⟩))) ∧ Below w.heap.size w w')) := Lib.hid (fun a b W hW => (nameErr_any a b W).mono (by rintro e w' ⟨b, rfl, hb'⟩; exact ⟨b, rfl, hW.trans (hb'.mono hW.size)⟩))
  subst hW0
  go_enter Tryz.func58, Tryz.ntmps58
  go_wp2_with fail
  refine (C.out _).mono ?_
  rintro e w1 ⟨hb1, hh1, ⟨hall, rfl, hv1⟩ | ⟨hall, b, rfl⟩⟩
  · have HB1 := Lib.hid (HB0.out.trans hb1)
    clear hb1 C HB0
    match xs, HN, HS, HL, hall, hv1 with
    | [.int i], HN, HS, HL, hall, hv1 =>
      obtain rfl : n = 1 := HN.out
      have hs1 : R32 i := HS.out (.int i) (by simp)
      obtain ⟨c0, c1, c2, f0, f1, l0, l1⟩ := Vars.three (x := i) (y := 0) (z := 1) (by simpa [vals, numOf] using hv1)
      have RL := Lib.hid (fun W => rangeLen_any 0 i 1 W ⟨by decide, by decide⟩ hs1 ⟨by decide, by decide⟩ (by decide))
      have HB2 := Lib.hid ((HB1.out.setCell (p := ⟨w.heap.size, 0, none⟩) (Nat.le_refl _) (.int .i64 0)).setCell (p := ⟨w.heap.size + 1, 0, none⟩) (by simp) (.int .i64 i))
      clear hs1 hv1 hall HS EN HL
      go_wp2_with fail
      go_quiet ((go_at_call 96; exact (RL.out _).mono (by rintro e w' ⟨rfl, rfl⟩; exact ⟨rfl, _, rfl⟩)))
      go_wp2_with fail
      go_ret2
      exact ⟨below_drewN HB2.out _, .inl ⟨0, i, 1, rfl, rfl⟩⟩
    | [.int i, .int j], HN, HS, HL, hall, hv1 =>
      obtain rfl : n = 2 := HN.out
      have hs1 : R32 i := HS.out (.int i) (by simp)
      have hs2 : R32 j := HS.out (.int j) (by simp)
      obtain ⟨c0, c1, c2, f0, f1, l0, l1⟩ := Vars.three (x := i) (y := j) (z := 1) (by simpa [vals, numOf] using hv1)
      have RL := Lib.hid (fun W => rangeLen_any i j 1 W hs1 hs2 ⟨by decide, by decide⟩ (by decide))
      clear hs1 hs2 hv1 hall HS EN HL
      go_wp2_with fail
      go_quiet ((go_at_call 96; exact (RL.out _).mono (by rintro e w' ⟨rfl, rfl⟩; exact ⟨rfl, _, rfl⟩)))
      go_wp2_with fail
      go_ret2
      exact ⟨below_drewN HB1.out _, .inl ⟨i, j, 1, rfl, rfl⟩⟩
    | [.int i, .int j, .int k], HN, HS, HL, hall, hv1 =>
      obtain rfl : n = 3 := HN.out
      have hs1 : R32 i := HS.out (.int i) (by simp)
      have hs2 : R32 j := HS.out (.int j) (by simp)
      have hs3 : R32 k := HS.out (.int k) (by simp)
      obtain ⟨c0, c1, c2, f0, f1, l0, l1⟩ := Vars.three (x := i) (y := j) (z := k) (by simpa [vals, numOf] using hv1)
      by_cases h0 : k = 0
      · have hz : (k == 0) = true := by simp [h0]
        have HR : Hid (rg [.int i, .int j, .int k] = none) := Lib.hid (by simp [rg, h0])
        clear hs1 hs2 hs3 hv1 hall HS HL h0
        go_wp2_with (go_at_call 95; refine (EN.out _ _ _ HB1.out).mono ?_; rintro e w2 ⟨b2, rfl, hb2⟩; have HB2 := Lib.hid hb2; clear hb2)
        go_ret2
        exact ⟨HB2.out, .inr ⟨HR.out, _, rfl⟩⟩
      · have hz : (k == 0) = false := by simp [h0]
        have HR : Hid (rg [.int i, .int j, .int k] = some (i, j, k)) := Lib.hid (by simp [rg, h0])
        have RL := Lib.hid (fun W => rangeLen_any i j k W hs1 hs2 hs3 h0)
        clear hs1 hs2 hs3 hv1 hall HS EN HL h0
        go_wp2_with fail
        go_quiet ((go_at_call 96; exact (RL.out _).mono (by rintro e w' ⟨rfl, rfl⟩; exact ⟨rfl, _, rfl⟩)))
        go_wp2_with fail
        go_ret2
        exact ⟨below_drewN HB1.out _, .inl ⟨i, j, k, HR.out, rfl⟩⟩
    | [], HN, HS, HL, hall, hv1 => exact absurd HL.out.1 (by simp)
    | .non :: _, HN, HS, HL, hall, hv1 => simp [isInt] at hall
    | .str _ :: _, HN, HS, HL, hall, hv1 => simp [isInt] at hall
    | .int _ :: .non :: _, HN, HS, HL, hall, hv1 => simp [isInt] at hall
    | .int _ :: .str _ :: _, HN, HS, HL, hall, hv1 => simp [isInt] at hall
    | .int _ :: .int _ :: .non :: _, HN, HS, HL, hall, hv1 => simp [isInt] at hall
    | .int _ :: .int _ :: .str _ :: _, HN, HS, HL, hall, hv1 => simp [isInt] at hall
    | .int _ :: .int _ :: .int _ :: _ :: _, HN, HS, HL, hall, hv1 => exact absurd HL.out.2 (by simp)
  · have HB1 := Lib.hid (HB0.out.trans hb1)
    have HR := Lib.hid (rg_none hall)
    clear hb1 C HB0 hall EN HS
    go_wp2_with fail
    go_ret2
    exact ⟨HB1.out, .inr ⟨HR.out, b, rfl⟩⟩

theorem assertRg (v : Value) (w : World) : (Instr.typeAssert (.iface 108 v) 77 108 false).run Tryz.prog w = .ok v w := by kernel_rfl
/-- what the door answers -/
def ZrPost (xs : List Scal) (w : World) (e : Ending) (w' : World) : Prop :=
  Below w.heap.size w w' ∧ ((∃ a b c, rg xs = some (a, b, c) ∧ e = .returned (.tuple #[.int .i64 a, .int .i64 b, .int .i64 c, .int .i64 (cnt a b c), .nilIface])) ∨
    (rg xs = none ∧ ∃ b, e = .returned (.tuple #[.int .i64 0, .int .i64 0, .int .i64 0, .int .i64 0, .iface 229 (.pointer (some ⟨b, 0, none⟩))])))
set_option maxHeartbeats 1600000 in
theorem zzRange_any (xs : List Scal) (a : Option Addr) (c : Nat) (w : World) (hxs : SvL w w.heap.size (.slice a xs.length c) xs) (hsm : ∀ x ∈ xs, Sm x) (h1 : 1 ≤ xs.length) (h3 : xs.length ≤ 3) :
    Calls Tryz.prog 29 #[.slice a xs.length c] w (ZrPost xs w) := by
  have C : Hid (∀ p W, Below w.heap.size w W → Calls Tryz.prog 58 #[.pointer none, p, .slice a xs.length c, .slice none 0 0] W (RgPost xs W)) := Lib.hid (fun p W h => range_any xs p a c W ((hxs.below h).more h.size) hsm h1 h3)
  have NB : Hid (∀ s k W, Below w.heap.size w W → Calls Tryz.prog 59 #[.string s, .func (.func k) #[] #[]] W (fun e w' => ∃ p, e = .returned (.pointer p) ∧ Below w.heap.size w w')) := Lib.hid (fun s k W h => (newBuiltin_any s k W).mono (by rintro e w' ⟨rfl, rfl⟩; exact ⟨_, rfl, h.alloc h.size _⟩))
  have HB0 : Hid (Below w.heap.size w w) := Below.refl _ _
  have hta := assertRg
  clear hxs hsm h1 h3
  go_enter Tryz.func29, Tryz.ntmps29
  go_wp2_with fail
  refine (NB.out _ _ _ HB0.out).mono ?_
  rintro e w1 ⟨p, rfl, hb1⟩
  have HB1 := Lib.hid hb1
  clear hb1
  go_wp2_with fail
  refine (C.out _ _ HB1.out).mono ?_
  rintro e w2 ⟨hb2, ⟨x, y, z, hr, rfl⟩ | ⟨hr, b, rfl⟩⟩
  · have HB2 := Lib.hid (HB1.out.trans (hb2.mono HB1.out.size)); have HR := Lib.hid hr
    have HB3 := Lib.hid (HB2.out.alloc HB2.out.size (.cells #[.int .i64 x, .int .i64 y, .int .i64 z, .int .i64 (cnt x y z)] 108))
    clear hb2 hr C NB
    generalize hn : cnt x y z = n at *
    have HN := Lib.hid hn
    clear hn
    go_wp2_with fail
    go_quiet (fail)
    go_wp2_with fail
    exact bodyPost_ret (v := .tuple #[.int .i64 x, .int .i64 y, .int .i64 z, .int .i64 n, .nilIface]) (by simp [results, Tryz.results29, go_sem]) rfl ⟨below_drewN HB3.out _, .inl ⟨x, y, z, HR.out, by rw [HN.out]⟩⟩
  · have HB2 := Lib.hid (HB1.out.trans (hb2.mono HB1.out.size)); have HR := Lib.hid hr
    clear hb2 hr C NB
    go_wp2_with fail
    exact bodyPost_ret (v := .tuple #[.int .i64 0, .int .i64 0, .int .i64 0, .int .i64 0, .iface 229 (.pointer (some ⟨b, 0, none⟩))]) (by simp [results, Tryz.results29, go_sem]) rfl ⟨HB2.out, .inr ⟨HR.out, b, rfl⟩⟩
/-- what impl.RangeOf answers -/
def IrPost (xs : List Scal) (w : World) (e : Ending) (w' : World) : Prop :=
  Below w.heap.size w w' ∧ ((∃ a b c, rg xs = some (a, b, c) ∧ e = .returned (.tuple #[.int .i64 a, .int .i64 b, .int .i64 c, .int .i64 (cnt a b c), .bool true, .bool true])) ∨
    (rg xs = none ∧ e = .returned (.tuple #[.int .i64 0, .int .i64 0, .int .i64 0, .int .i64 0, .bool false, .bool true])))
theorem Sm.ok {x : Scal} (h : Sm x) : x.ok := by
  cases x with
  | non => trivial
  | int i => exact lt_lim (j := 8) (by have e : (256 : Nat) ^ 8 = 18446744073709551616 := by decide
                                       obtain ⟨h1, h2⟩ := h; omega) (by omega)
  | str s => cases h
set_option maxHeartbeats 1600000 in
theorem implRange_any (xs : List Scal) (a : Option Addr) (c : Nat) (w : World) (hxs : VaL w w.heap.size (.slice a xs.length c) xs) (hsm : ∀ x ∈ xs, Sm x) (h1 : 1 ≤ xs.length) (h3 : xs.length ≤ 3) :
    Calls Tryz.prog 10 #[.slice a xs.length c] w (IrPost xs w) := by
  have C := Lib.hid (bounds_any xs (.slice a xs.length c) w hxs (fun x hx => (hsm x hx).ok) (by omega))
  have Z : Hid (∀ a c W, SvL W W.heap.size (.slice a xs.length c) xs → Calls Tryz.prog 29 #[.slice a xs.length c] W (ZrPost xs W)) := Lib.hid (fun a c W h => zzRange_any xs a c W h hsm h1 h3)
  clear hxs hsm h1 h3
  go_enter Tryz.func10, Tryz.ntmps10
  go_wp2_with fail
  refine C.out.mono ?_
  rintro e w1 ⟨a1, c1, rfl, hs, hb1⟩
  have Z1 := Lib.hid (Z.out _ _ _ hs); have HB1 := Lib.hid hb1
  clear hs hb1 C Z
  go_wp2_with fail
  refine Z1.out.mono ?_
  rintro e w2 ⟨hb2, ⟨x, y, z, hr, rfl⟩ | ⟨hr, b, rfl⟩⟩
  · have HB2 := Lib.hid (HB1.out.trans (hb2.mono HB1.out.size)); have HR := Lib.hid hr
    clear hb2 hr Z1
    generalize hn : cnt x y z = n at *
    have HN := Lib.hid hn
    clear hn
    go_wp2_with fail
    exact bodyPost_ret (v := .tuple #[.int .i64 x, .int .i64 y, .int .i64 z, .int .i64 n, .bool true, .bool true]) (by simp [results, Tryz.results10, go_sem]) rfl ⟨HB2.out, .inl ⟨x, y, z, HR.out, by rw [HN.out]⟩⟩
  · have HB2 := Lib.hid (HB1.out.trans (hb2.mono HB1.out.size)); have HR := Lib.hid hr
    clear hb2 hr Z1
    go_wp2_with fail
    exact bodyPost_ret (v := .tuple #[.int .i64 0, .int .i64 0, .int .i64 0, .int .i64 0, .bool false, .bool true]) (by simp [results, Tryz.results10, go_sem]) rfl ⟨HB2.out, .inr ⟨HR.out, rfl⟩⟩
end Go.Proofs.YtoggalnjjhcmkaaGreat
