/- The truth of a scalar: starlark's Truth of each kind. -/
import Derived.Test.YtggpaejlmfppoaaGreatCel
import Derived.Test.YtggpaejlmfppoaaGreatMNew
import Derived.Test.YtggpaejlmfppoaaGreatCmp4
namespace Go.Proofs.YtggpaejlmfppoaaGreat
open Go.RowKit Dig
set_option linter.unusedVariables false
set_option linter.unusedSimpArgs false
set_option maxRecDepth 100000

/-- whether a float is one of the two zeros -/
def fltZero (n : Nat) : Bool := FloatKind.f64.format.order n 0 == some .eq
def Cel.truth : Cel → Bool
  | .non => false
  | .boo b => b
  | .int i => decide (i ≠ 0)
  | .flt u => !fltZero u.toNat
  | .str s => decide (0 < s.size)
  | .byt s => decide (0 < s.size)
def BoPost (b : Bool) (w : World) (e : Ending) (w' : World) : Prop := e = .returned (.bool b) ∧ Below w.heap.size w w'
theorem truthNon_any (v : Value) (w : World) : Calls Tryz.prog 150 #[v] w (BoPost false w) := by
  go_enter Tryz.func150, Tryz.ntmps150
  go_wp2_with fail
  go_ret
  exact ⟨rfl, Below.refl _ _⟩
theorem truthBoo_any (b : Bool) (w : World) : Calls Tryz.prog 155 #[.bool b] w (BoPost b w) := by
  go_enter Tryz.func155, Tryz.ntmps155
  go_wp2_with fail
  go_ret
  exact ⟨rfl, Below.refl _ _⟩
theorem truthStr_any (s : ByteArray) (w : World) : Calls Tryz.prog 173 #[.string s] w (BoPost (decide (0 < s.size)) w) := by
  by_cases h : 0 < s.size
  · have H : Hid (decide (0 < s.size) = true) := Lib.hid (by simpa using h)
    go_enter Tryz.func173, Tryz.ntmps173
    go_wp2_with fail
    go_ret
    exact ⟨by rw [H.out] <;> simp [h], Below.refl _ _⟩
  · have H : Hid (decide (0 < s.size) = false) := Lib.hid (by simpa using h)
    go_enter Tryz.func173, Tryz.ntmps173
    go_wp2_with fail
    go_ret
    exact ⟨by rw [H.out] <;> simp [h], Below.refl _ _⟩
theorem truthByt_any (s : ByteArray) (w : World) : Calls Tryz.prog 178 #[.string s] w (BoPost (decide (0 < s.size)) w) := by
  by_cases h : 0 < s.size
  · have H : Hid (decide (0 < s.size) = true) := Lib.hid (by simpa using h)
    go_enter Tryz.func178, Tryz.ntmps178
    go_wp2_with fail
    go_ret
    exact ⟨by rw [H.out] <;> simp [h], Below.refl _ _⟩
  · have H : Hid (decide (0 < s.size) = false) := Lib.hid (by simpa using h)
    go_enter Tryz.func178, Tryz.ntmps178
    go_wp2_with fail
    go_ret
    exact ⟨by rw [H.out] <;> simp [h], Below.refl _ _⟩
theorem run_neq_zero (t : TypeId) (n : Nat) (w : World) : (binOp .neq t (.float .f64 n) (.float .f64 0)).run Tryz.prog w = .ok (.bool (!fltZero n)) w := by
  unfold fltZero
  simp [binOp, Op.floatCmp, go_sem]
  rfl
theorem truthFlt_any (n : Nat) (w : World) : Calls Tryz.prog 168 #[.float .f64 n] w (BoPost (!fltZero n) w) := by
  have hf := run_neq_zero
  go_enter Tryz.func168, Tryz.ntmps168
  go_wp2_with fail
  go_ret
  exact ⟨rfl, Below.refl _ _⟩
theorem cmpI_zero (i : Int) : cmpI i 0 = 0 ↔ i = 0 := by unfold cmpI; split <;> (try split) <;> omega
theorem sgn_zero (i : Int) : sgn i = 0 ↔ i = 0 := by unfold sgn; split <;> (try split) <;> omega
set_option maxHeartbeats 1600000 in
theorem starSign_any (i s : Int) (q : Option Addr) (w : World) (hv : In w w.heap.size (.agg #[.int .i64 s, .pointer q]) i) (hl : i.natAbs < lim) :
    Calls Tryz.prog 163 #[.agg #[.int .i64 s, .pointer q]] w fun e w' => ∃ z : Int, e = .returned (.int .i64 z) ∧ (z = 0 ↔ i = 0) ∧ Below w.heap.size w w' := by
  have hb0 : Below w.heap.size w (w.alloc (.cells #[.int .i64 s, .pointer q] 87)) := (Below.refl _ _).alloc (Nat.le_refl _) _
  obtain ⟨s', q', e, hc⟩ := hv
  simp only [Value.agg.injEq, Array.mk.injEq, List.cons.injEq, Value.int.injEq, Value.pointer.injEq, true_and, and_true] at e
  obtain ⟨rfl, rfl⟩ := e
  have HB0 := Lib.hid hb0
  rcases hc with ⟨rfl, rfl, h1, h2⟩ | ⟨rfl, _, hbg⟩
  · have C := Lib.hid (fun W => signum_any s W (by omega) (by omega))
    have Z := Lib.hid (cmpI_zero s)
    clear hb0 h1 h2 hl
    go_enter Tryz.func163, Tryz.ntmps163
    go_wp2_with fail
    refine (get_any _ _ _).mono ?_
    rintro e w1 ⟨rfl, hb1⟩
    have HB1 := Lib.hid (HB0.out.trans (hb1.mono HB0.out.size))
    clear hb1
    go_wp2_with fail
    refine (C.out _).mono ?_
    rintro e w2 ⟨rfl, rfl⟩
    clear C
    go_wp2_with fail
    go_ret
    exact ⟨_, rfl, Z.out, HB1.out⟩
  · have C : Hid (∀ W, Below w.heap.size w W → Calls Tryz.prog 67 #[.pointer q] W fun e w' => e = .returned (.int .i64 (sgn i)) ∧ W = w') := Lib.hid (fun W hb => Sign_any q i W ((hbg.below hb).more hb.size) hl)
    have Z := Lib.hid (sgn_zero i)
    obtain ⟨b, abs, rfl, _⟩ := hbg
    clear hb0 hl
    go_enter Tryz.func163, Tryz.ntmps163
    go_wp2_with fail
    refine (get_any _ _ _).mono ?_
    rintro e w1 ⟨rfl, hb1⟩
    have HB1 := Lib.hid (HB0.out.trans (hb1.mono HB0.out.size))
    have C1 := Lib.hid (C.out w1 HB1.out)
    clear hb1 C
    go_wp2_with fail
    refine C1.out.mono ?_
    rintro e w2 ⟨rfl, rfl⟩
    clear C1
    go_wp2_with fail
    go_ret
    exact ⟨_, rfl, Z.out, HB1.out⟩
theorem truthInt_any (i s : Int) (q : Option Addr) (w : World) (hv : In w w.heap.size (.agg #[.int .i64 s, .pointer q]) i) (hl : i.natAbs < lim) :
    Calls Tryz.prog 161 #[.agg #[.int .i64 s, .pointer q]] w (BoPost (decide (i ≠ 0)) w) := by
  have hb0 : Below w.heap.size w (w.alloc (.cells #[.int .i64 s, .pointer q] 87)) := (Below.refl _ _).alloc (Nat.le_refl _) _
  have C := Lib.hid (fun W (hb : Below w.heap.size w W) => starSign_any i s q W ((hv.below hb).more hb.size) hl)
  have HB0 := Lib.hid hb0
  clear hv hl hb0
  go_enter Tryz.func161, Tryz.ntmps161
  go_wp2_with fail
  refine (C.out _ (by first | exact Below.refl _ _ | exact HB0.out)).mono ?_
  rintro e w1 ⟨z, rfl, hz, hb1⟩
  by_cases h0 : z = 0
  · have H : Hid (decide (i ≠ 0) = false) := Lib.hid (by have := hz.1 h0; simp [this])
    subst h0
    have HB1 : Hid (Below w.heap.size w w1) := Lib.hid (by first | exact hb1 | exact HB0.out.trans (hb1.mono HB0.out.size))
    clear hz hb1 C
    go_wp2_with fail
    go_ret
    exact ⟨by rw [H.out]; rfl, HB1.out⟩
  · have H : Hid (decide (i ≠ 0) = true) := Lib.hid (by have : ¬ i = 0 := fun h => h0 (hz.2 h); simp [this])
    have HB1 : Hid (Below w.heap.size w w1) := Lib.hid (by first | exact hb1 | exact HB0.out.trans (hb1.mono HB0.out.size))
    clear hz hb1 C
    go_wp2_with fail
    go_ret
    exact ⟨by rw [H.out]; first | rfl | simp [h0], HB1.out⟩
end Go.Proofs.YtggpaejlmfppoaaGreat
