/- (starlark.Int).Cmp; impl.IntCmp. -/
import Derived.Test.YthnmkbdeoahiaaaCmp4
import Derived.Test.YthnmkbdeoahiaaaCmp3
namespace Go.Proofs.Ythnmkbdeoahiaaa
open Go.RowKit Dig
set_option linter.unusedVariables false
set_option linter.unusedSimpArgs false
set_option maxRecDepth 100000

theorem assertInt (v : Value) (w : World) : (Instr.typeAssert (.iface 70 v) 57 70 false).run Try.prog w = .ok v w := by kernel_rfl
theorem In.parts {w : World} {B : Nat} {s : Int} {q : Option Addr} {i : Int} (h : In w B (.agg #[.int .i64 s, .pointer q]) i) : (q = none ∧ s = i ∧ -2147483648 ≤ i ∧ i ≤ 2147483647) ∨ (∃ b, q = some ⟨b, 0, none⟩) := by
  obtain ⟨s', q', hv, h⟩ := h
  simp only [Value.agg.injEq, Array.mk.injEq, List.cons.injEq, Value.int.injEq, true_and, Value.pointer.injEq, and_true] at hv
  obtain ⟨rfl, rfl⟩ := hv
  rcases h with h | ⟨_, _, b, _, hb, _⟩
  · exact .inl h
  · exact .inr ⟨b, hb⟩

theorem cmpI_sub (i j : Int) : cmpI (i - j) 0 = cmpI i j := by
  unfold cmpI
  have e1 : i - j < 0 ↔ i < j := by omega
  have e2 : 0 < i - j ↔ j < i := by omega
  simp only [e1, e2]

def CmpInPost (r : Int) (w : World) (e : Ending) (w' : World) : Prop := e = .returned (.tuple #[.int .i64 r, Value.nilIface]) ∧ Below w.heap.size w w'

set_option maxHeartbeats 3200000 in
theorem intCmp_any (i j : Int) (v1 v2 : Value) (w : World) (h1 : In w w.heap.size v1 i) (h2 : In w w.heap.size v2 j) (hi : i.natAbs < lim) (hj : j.natAbs < lim) :
    Calls Try.prog 40 #[v1, .iface 70 v2, .int .i64 1] w (CmpInPost (cmpI i j) w) := by
  obtain ⟨s1, q1, rfl⟩ := h1.form
  obtain ⟨s2, q2, rfl⟩ := h2.form
  have c1 := h1.parts
  have c2 := h2.parts
  obtain ⟨W0, hW0⟩ : ∃ W0, W0 = (w.alloc (.cells #[.int .i64 s1, .pointer q1] 70)).alloc (.cells #[.int .i64 s2, .pointer q2] 70) := ⟨_, rfl⟩
  have hsz : W0.heap.size = w.heap.size + 2 := by rw [hW0]; simp
  have hb0 : Below w.heap.size w W0 := by rw [hW0]; exact ((Below.refl _ _).alloc (Nat.le_refl _) _).alloc (by simp) _
  have hX : Blk W0 w.heap.size 70 [.int .i64 s1, .pointer q1] := by rw [hW0]; exact (Blk.new w _ [.int .i64 s1, .pointer q1]).alloc _
  have hY : Blk W0 (w.heap.size + 1) 70 [.int .i64 s2, .pointer q2] := by
    rw [hW0]
    have := Blk.new (w.alloc (.cells #[.int .i64 s1, .pointer q1] 70)) 70 [.int .i64 s2, .pointer q2]
    simpa using this
  have STEP0 : Hid (∀ w1, Below W0.heap.size W0 w1 → Below (w.heap.size + 2) W0 w1) := Lib.hid (fun w1 h => h.mono (by omega))
  have STEP : Hid (∀ w1 w2, Below (w.heap.size + 2) W0 w1 → Below w1.heap.size w1 w2 → Below (w.heap.size + 2) W0 w2) := Lib.hid (fun w1 w2 h1 h2 => h1.trans (h2.mono (by have := h1.size; omega)))
  have KEEP : Hid (∀ W, Below (w.heap.size + 2) W0 W → W.cell? ⟨w.heap.size, 0, none⟩ = some (.int .i64 s1) ∧ W.cell? ⟨w.heap.size, 1, none⟩ = some (.pointer q1) ∧ W.cell? ⟨w.heap.size + 1, 0, none⟩ = some (.int .i64 s2) ∧ W.cell? ⟨w.heap.size + 1, 1, none⟩ = some (.pointer q2)) := Lib.hid (fun W h => by
    have hX' := hX.below h (by omega)
    have hY' := hY.below h (by omega)
    exact ⟨hX'.cell 0 (by simp), hX'.cell 1 (by simp), hY'.cell 0 (by simp), hY'.cell 1 (by simp)⟩)
  have FIN : Hid (∀ W, Below (w.heap.size + 2) W0 W → Below w.heap.size w W) := Lib.hid (fun W h => hb0.trans (h.mono (by omega)))
  have B1 : Hid (∀ W, Below (w.heap.size + 2) W0 W → Calls Try.prog 57 #[.agg #[.int .i64 s1, .pointer q1]] W (BgPost i W)) := Lib.hid (fun W h => by
    have hb := hb0.trans (h.mono (by omega))
    exact bigInt_any _ i W ((h1.below hb).more hb.size))
  have B2 : Hid (∀ W, Below (w.heap.size + 2) W0 W → Calls Try.prog 57 #[.agg #[.int .i64 s2, .pointer q2]] W (BgPost j W)) := Lib.hid (fun W h => by
    have hb := hb0.trans (h.mono (by omega))
    exact bigInt_any _ j W ((h2.below hb).more hb.size))
  have hta := assertInt
  have HI := Lib.hid hi
  have HJ := Lib.hid hj
  clear h1 h2 hsz hb0 hX hY hi hj
  subst hW0
  rcases c1 with ⟨rfl, rfl, i1, i2⟩ | ⟨b1, rfl⟩
  · rcases c2 with ⟨rfl, rfl, j1, j2⟩ | ⟨b2, rfl⟩
    · have G := Lib.hid (cmpI_sub s1 s2)
      have SG := Lib.hid (fun W => signum_any (s1 - s2) W (by omega) (by omega))
      clear B1 B2
      go_enter Try.func40, Try.ntmps40
      go_wp2_with fail
      refine (get_any _ _ _).mono ?_
      rintro e w1 ⟨rfl, hb1⟩
      have HB1 := Lib.hid (STEP0.out _ hb1)
      obtain ⟨p0, p1, p2, p3⟩ := KEEP.out _ HB1.out
      clear hb1
      go_wp2_with fail
      refine (get_any _ _ _).mono ?_
      rintro e w2 ⟨rfl, hb2⟩
      have HB2 := Lib.hid (STEP.out _ _ HB1.out hb2)
      clear hb2
      go_wp2_with fail
      refine (SG.out _).mono ?_
      rintro e w3 ⟨rfl, rfl⟩
      rw [G.out]
      go_wp2_with fail
      go_ret2
      exact ⟨rfl, FIN.out _ HB2.out⟩
    · have _ := hta
      go_enter Try.func40, Try.ntmps40
      go_wp2_with fail
      refine (get_any _ _ _).mono ?_
      rintro e w1 ⟨rfl, hb1⟩
      have HB1 := Lib.hid (STEP0.out _ hb1)
      obtain ⟨p0, p1, p2, p3⟩ := KEEP.out _ HB1.out
      clear hb1
      go_wp2_with fail
      refine (get_any _ _ _).mono ?_
      rintro e w2 ⟨rfl, hb2⟩
      have HB0 := Lib.hid (STEP.out _ _ HB1.out hb2)
      obtain ⟨p0, p1, p2, p3⟩ := KEEP.out _ HB0.out
      have HD := Lib.hid HB0.out.drew
      clear hb2 HB1 hta
      go_wp2_with fail
      go_region_with (first
        | (go_at_call 57; (first | (with_reducible refine (B1.out _ HB.out).mono ?_) | (with_reducible refine (B1.out _ HD.out).mono ?_)); rintro e w3 ⟨a1, rfl, hp, hb⟩; (first | have HB := Lib.hid (STEP.out _ _ HB.out hb) | have HB := Lib.hid (STEP.out _ _ HD.out hb)); (try have P2 := Lib.hid ((P2.out.below hb).more hb.size)); have P1 := Lib.hid hp; obtain ⟨p0, p1, p2, p3⟩ := KEEP.out _ HB.out; clear hp hb)
        | (go_at_call 57; (first | (with_reducible refine (B2.out _ HB.out).mono ?_) | (with_reducible refine (B2.out _ HD.out).mono ?_)); rintro e w3 ⟨a2, rfl, hp, hb⟩; (first | have HB := Lib.hid (STEP.out _ _ HB.out hb) | have HB := Lib.hid (STEP.out _ _ HD.out hb)); (try have P1 := Lib.hid ((P1.out.below hb).more hb.size)); have P2 := Lib.hid hp; obtain ⟨p0, p1, p2, p3⟩ := KEEP.out _ HB.out; clear hp hb)
        | (go_at_call 63; refine (bigCmp_any _ _ _ _ _ P1.out P2.out HI.out HJ.out).mono ?_; rintro e w5 ⟨rfl, hq⟩; have HQ := Lib.hid (STEP.out _ _ HB.out hq.below); clear hq))
      all_goals
        go_wp2_with fail
        go_ret2
        exact ⟨rfl, FIN.out _ HQ.out⟩
  · have _ := hta
    go_enter Try.func40, Try.ntmps40
    go_wp2_with fail
    refine (get_any _ _ _).mono ?_
    rintro e w1 ⟨rfl, hb1⟩
    have HB1 := Lib.hid (STEP0.out _ hb1)
    obtain ⟨p0, p1, p2, p3⟩ := KEEP.out _ HB1.out
    clear hb1
    go_wp2_with fail
    refine (get_any _ _ _).mono ?_
    rintro e w2 ⟨rfl, hb2⟩
    have HB0 := Lib.hid (STEP.out _ _ HB1.out hb2)
    obtain ⟨p0, p1, p2, p3⟩ := KEEP.out _ HB0.out
    have HD := Lib.hid HB0.out.drew
    clear hb2 HB1 hta
    go_wp2_with fail
    go_region_with (first
      | (go_at_call 57; (first | (with_reducible refine (B1.out _ HB.out).mono ?_) | (with_reducible refine (B1.out _ HD.out).mono ?_)); rintro e w3 ⟨a1, rfl, hp, hb⟩; (first | have HB := Lib.hid (STEP.out _ _ HB.out hb) | have HB := Lib.hid (STEP.out _ _ HD.out hb)); (try have P2 := Lib.hid ((P2.out.below hb).more hb.size)); have P1 := Lib.hid hp; obtain ⟨p0, p1, p2, p3⟩ := KEEP.out _ HB.out; clear hp hb)
      | (go_at_call 57; (first | (with_reducible refine (B2.out _ HB.out).mono ?_) | (with_reducible refine (B2.out _ HD.out).mono ?_)); rintro e w3 ⟨a2, rfl, hp, hb⟩; (first | have HB := Lib.hid (STEP.out _ _ HB.out hb) | have HB := Lib.hid (STEP.out _ _ HD.out hb)); (try have P1 := Lib.hid ((P1.out.below hb).more hb.size)); have P2 := Lib.hid hp; obtain ⟨p0, p1, p2, p3⟩ := KEEP.out _ HB.out; clear hp hb)
      | (go_at_call 63; refine (bigCmp_any _ _ _ _ _ P1.out P2.out HI.out HJ.out).mono ?_; rintro e w5 ⟨rfl, hq⟩; have HQ := Lib.hid (STEP.out _ _ HB.out hq.below); clear hq))
    all_goals
      go_wp2_with fail
      go_ret2
      exact ⟨rfl, FIN.out _ HQ.out⟩
end Go.Proofs.Ythnmkbdeoahiaaa
