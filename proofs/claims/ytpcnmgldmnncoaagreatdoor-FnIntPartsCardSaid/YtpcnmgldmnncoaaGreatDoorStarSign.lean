/- (starlark.Int).Sign. -/
import Derived.Test.YtpcnmgldmnncoaaGreatDoorMNew
import Derived.Test.YtpcnmgldmnncoaaGreatDoorCmp
namespace Go.Proofs.YtpcnmgldmnncoaaGreatDoor
open Go.RowKit Dig
set_option linter.unusedVariables false
set_option linter.unusedSimpArgs false
set_option maxRecDepth 100000

theorem signum_any (x : Int) (w : World) (h1 : -9000000000000000000 ≤ x) (h2 : x ≤ 9000000000000000000) : Calls Tryz.prog 31 #[.int .i64 x] w fun e w' => e = .returned (.int .i64 (cmpI x 0)) ∧ w' = w := by
  rcases Int.lt_trichotomy x 0 with h | h | h
  · have e1 : x / 9223372036854775808 = -1 := by omega
    have e2 : cmpI x 0 = -1 := by simp [cmpI, h]
    have E3 := Lib.hid (show -x / 9223372036854775808 = 0 by omega)
    rw [e2]
    go_enter Tryz.func31, Tryz.ntmps31
    go_wp2
    go_ret
    refine ⟨congrArg (fun z => Ending.returned (.int .i64 z)) (?_ : wrap64 (bits BinOp.or IntKind.u64 (IntKind.u64.wrap (-1)) (-x / 9223372036854775808)) = -1), rfl⟩
    rw [E3.out]
    kernel_rfl
  · subst h
    rw [show cmpI 0 0 = 0 from rfl]
    go_enter Tryz.func31, Tryz.ntmps31
    go_wp2
    go_ret
    refine ⟨?_, rfl⟩
    kernel_rfl
  · have e1 : x / 9223372036854775808 = 0 := by omega
    have e2 : cmpI x 0 = 1 := by simp [cmpI, h]; omega
    have E3 := Lib.hid (show IntKind.u64.wrap (-x) / 9223372036854775808 = 1 by rw [IntKind.wrap_u64]; omega)
    rw [e2]
    go_enter Tryz.func31, Tryz.ntmps31
    go_wp2
    go_ret
    refine ⟨congrArg (fun z => Ending.returned (.int .i64 z)) (?_ : wrap64 (bits BinOp.or IntKind.u64 0 (IntKind.u64.wrap (-x) / 9223372036854775808)) = 1), rfl⟩
    rw [E3.out]
    kernel_rfl
theorem cmpI_zero (i : Int) : cmpI i 0 = 0 ↔ i = 0 := by unfold cmpI; split <;> (try split) <;> omega
theorem sgn_zero (i : Int) : sgn i = 0 ↔ i = 0 := by unfold sgn; split <;> (try split) <;> omega
set_option maxHeartbeats 1600000 in
theorem starSign_any (i s : Int) (q : Option Addr) (w : World) (hv : In w w.heap.size (.agg #[.int .i64 s, .pointer q]) i) (hl : i.natAbs < lim) :
    Calls Tryz.prog 17 #[.agg #[.int .i64 s, .pointer q]] w fun e w' => ∃ z : Int, e = .returned (.int .i64 z) ∧ (z = 0 ↔ i = 0) ∧ Below w.heap.size w w' := by
  have hb0 : Below w.heap.size w (w.alloc (.cells #[.int .i64 s, .pointer q] 44)) := (Below.refl _ _).alloc (Nat.le_refl _) _
  obtain ⟨s', q', e, hc⟩ := hv
  simp only [Value.agg.injEq, Array.mk.injEq, List.cons.injEq, Value.int.injEq, Value.pointer.injEq, true_and, and_true] at e
  obtain ⟨rfl, rfl⟩ := e
  have HB0 := Lib.hid hb0
  rcases hc with ⟨rfl, rfl, h1, h2⟩ | ⟨rfl, _, hbg⟩
  · have C := Lib.hid (fun W => signum_any s W (by omega) (by omega))
    have Z := Lib.hid (cmpI_zero s)
    clear hb0 h1 h2 hl
    go_enter Tryz.func17, Tryz.ntmps17
    go_wp2_with fail
    refine (get_any _ _ _).mono ?_
    rintro e w1 ⟨rfl, hb1⟩
    have HB1 := Lib.hid (HB0.out.trans (hb1.mono HB0.out.size))
    clear hb1
    go_wp2_with fail
    refine (C.out _).mono ?_
    rintro e w2 ⟨rfl, rfl⟩
    clear C
    go_wp2_with fail
    go_ret
    exact ⟨_, rfl, Z.out, HB1.out⟩
  · have C : Hid (∀ W, Below w.heap.size w W → Calls Tryz.prog 30 #[.pointer q] W fun e w' => e = .returned (.int .i64 (sgn i)) ∧ W = w') := Lib.hid (fun W hb => Sign_any q i W ((hbg.below hb).more hb.size) hl)
    have Z := Lib.hid (sgn_zero i)
    obtain ⟨b, abs, rfl, _⟩ := hbg
    clear hb0 hl
    go_enter Tryz.func17, Tryz.ntmps17
    go_wp2_with fail
    refine (get_any _ _ _).mono ?_
    rintro e w1 ⟨rfl, hb1⟩
    have HB1 := Lib.hid (HB0.out.trans (hb1.mono HB0.out.size))
    have C1 := Lib.hid (C.out w1 HB1.out)
    clear hb1 C
    go_wp2_with fail
    refine C1.out.mono ?_
    rintro e w2 ⟨rfl, rfl⟩
    clear C1
    go_wp2_with fail
    go_ret
    exact ⟨_, rfl, Z.out, HB1.out⟩
end Go.Proofs.YtpcnmgldmnncoaaGreatDoor
