/- (starlark.Int).And: of two integers of the package, small or great. (starlark.Int).Or: of two integers of the package, small or great. (starlark.Int).Xor: of two integers of the package, small or great. (starlark.Int).Not: of an integer of the package, small or great. -/
import Derived.Test.YthnmkbdeoahiaaaStar
import Derived.Test.YthnmkbdeoahiaaaSmallInt
import Derived.Test.YthnmkbdeoahiaaaMBigAnd
import Derived.Deep.RegionHeld3
import Derived.Test.YthnmkbdeoahiaaaMBigOr
import Derived.Test.YthnmkbdeoahiaaaMBigXor
import Derived.Test.YthnmkbdeoahiaaaMBigBit0
namespace Go.Proofs.Ythnmkbdeoahiaaa
open Go.RowKit Dig
set_option linter.unusedVariables false
set_option linter.unusedSimpArgs false
set_option maxRecDepth 100000

set_option maxHeartbeats 3200000 in
theorem intAnd_any (i j : Int) (v1 v2 : Value) (w : World) (h1 : In w w.heap.size v1 i) (h2 : In w w.heap.size v2 j) (hi : i.natAbs < lim) (hj : j.natAbs < lim) (hr : (andI i j).natAbs < lim) :
    Calls Try.prog 33 #[v1, v2] w (InPost (andI i j) w) := by
  obtain ⟨s1, q1, rfl⟩ := h1.form
  obtain ⟨s2, q2, rfl⟩ := h2.form
  have c1 := h1.cases2
  have c2 := h2.cases2
  obtain ⟨W0, hW0⟩ : ∃ W0, W0 = ((w.alloc (.cells #[.int .i64 s1, .pointer q1] 70)).alloc (.cells #[.int .i64 s2, .pointer q2] 70)).alloc (.cells #[.int .i64 0, .pointer none] 70) := ⟨_, rfl⟩
  have hsz : W0.heap.size = w.heap.size + 3 := by rw [hW0]; simp
  have hb0 : Below w.heap.size w W0 := by rw [hW0]; exact (((Below.refl _ _).alloc (Nat.le_refl _) _).alloc (by simp) _).alloc (by simp; omega) _
  have hX : Blk W0 w.heap.size 70 [.int .i64 s1, .pointer q1] := by rw [hW0]; exact ((Blk.new w _ [.int .i64 s1, .pointer q1]).alloc _).alloc _
  have hY : Blk W0 (w.heap.size + 1) 70 [.int .i64 s2, .pointer q2] := by
    rw [hW0]
    have := (Blk.new (w.alloc (.cells #[.int .i64 s1, .pointer q1] 70)) 70 [.int .i64 s2, .pointer q2]).alloc (.cells #[.int .i64 0, .pointer none] 70)
    simpa using this
  have hZ : Blk W0 (w.heap.size + 1 + 1) 70 [.int .i64 0, .pointer none] := by
    rw [hW0]
    have := Blk.new ((w.alloc (.cells #[.int .i64 s1, .pointer q1] 70)).alloc (.cells #[.int .i64 s2, .pointer q2] 70)) 70 [.int .i64 0, .pointer none]
    simpa using this
  have STEP0 : Hid (∀ w1, Below W0.heap.size W0 w1 → Below (w.heap.size + 3) W0 w1) := Lib.hid (fun w1 h => h.mono (by omega))
  have STEP : Hid (∀ w1 w2, Below (w.heap.size + 3) W0 w1 → Below w1.heap.size w1 w2 → Below (w.heap.size + 3) W0 w2) := Lib.hid (fun w1 w2 h1 h2 => h1.trans (h2.mono (by have := h1.size; omega)))
  have START : Hid (∀ w1, Below (w.heap.size + 3) W0 w1 → St W0 (w.heap.size + 3) i j none none none w1) := Lib.hid (fun w1 h => St.start (by have := h.size; omega) h)
  have KEEP : Hid (∀ W, Below (w.heap.size + 3) W0 W → (W.cell? ⟨w.heap.size, 0, none⟩ = some (.int .i64 s1) ∧ W.cell? ⟨w.heap.size, 1, none⟩ = some (.pointer q1) ∧ W.cell? ⟨w.heap.size + 1, 0, none⟩ = some (.int .i64 s2) ∧ W.cell? ⟨w.heap.size + 1, 1, none⟩ = some (.pointer q2)) ∧
      (W.cell? ⟨w.heap.size + 1 + 1, 0, none⟩ = some (.int .i64 0) ∧ W.cell? ⟨w.heap.size + 1 + 1, 1, none⟩ = some (.pointer none) ∧ W.frozen? ⟨w.heap.size + 1 + 1, 0, none⟩ = false ∧ W.frozen? ⟨w.heap.size + 1 + 1, 1, none⟩ = false)) := Lib.hid (fun W h => by
    have hX' := hX.below h (by omega)
    have hY' := hY.below h (by omega)
    have hZ' := hZ.below h (by omega)
    exact ⟨⟨hX'.cell 0 (by simp), hX'.cell 1 (by simp), hY'.cell 0 (by simp), hY'.cell 1 (by simp)⟩, hZ'.cell 0 (by simp), hZ'.cell 1 (by simp), hZ'.free 0, hZ'.free 1⟩)
  have FIN : Hid (∀ (W W' : World) (s : Int) (q : Option Addr), Below (w.heap.size + 3) W0 W → Below W.heap.size W W' → In W' W'.heap.size (.agg #[.int .i64 s, .pointer q]) (andI i j) → InPost (andI i j) w (.returned (.agg #[.int .i64 s, .pointer q])) ((W'.setCell ⟨w.heap.size + 1 + 1, 0, none⟩ (.int .i64 s)).setCell ⟨w.heap.size + 1 + 1, 1, none⟩ (.pointer q))) := Lib.hid (by
    intro W W' s q h h' hin
    have hb : Below (w.heap.size + 3) W0 W' := h.trans (h'.mono (by have := h.size; omega))
    have := hin.store (w := w) (hZ.below hb (by omega)) (by simp [wv]) (hb0.trans (hb.mono (by omega))) (by omega)
    exact ⟨_, rfl, this.1, this.2⟩)
  have B1 : Hid (∀ oz o2 W, St W0 (w.heap.size + 3) i j oz none o2 W → Calls Try.prog 57 #[.agg #[.int .i64 s1, .pointer q1]] W fun e w' => ∃ b, e = .returned (.pointer (some ⟨b, 0, none⟩)) ∧ St W0 (w.heap.size + 3) i j oz (some b) o2 w') := Lib.hid (fun oz o2 W s => s.big1 h1 hb0 (by omega))
  have B2 : Hid (∀ oz o1 W, St W0 (w.heap.size + 3) i j oz o1 none W → Calls Try.prog 57 #[.agg #[.int .i64 s2, .pointer q2]] W fun e w' => ∃ b, e = .returned (.pointer (some ⟨b, 0, none⟩)) ∧ St W0 (w.heap.size + 3) i j oz o1 (some b) w') := Lib.hid (fun oz o1 W s => s.big2 h2 hb0 (by omega))
  have OPC : Hid (∀ z b1 b2 W, St W0 (w.heap.size + 3) i j (some z) (some b1) (some b2) W → Calls Try.prog 56 #[.pointer (some ⟨z, 0, none⟩), .pointer (some ⟨b1, 0, none⟩), .pointer (some ⟨b2, 0, none⟩)] W fun e w' => e = .returned (.pointer (some ⟨z, 0, none⟩)) ∧ Bg w' w'.heap.size (some ⟨z, 0, none⟩) (andI i j) ∧ Below (w.heap.size + 3) W0 w') := Lib.hid (fun z b1 b2 W s => s.op (fun z p q w hz hp hq hn1 hn2 => bigAnd_any z p q i j w hz hp hq hn1 hn2 hi hj))
  have MB : Hid (∀ p W, Bg W W.heap.size p (andI i j) → Calls Try.prog 51 #[.pointer p] W (InPost (andI i j) W)) := Lib.hid (fun p W h => makeBigInt_any p _ W h hr)
  clear h1 h2 hsz hb0 hX hY hZ hi hj hr
  subst hW0
  have core : ((q1 = none ∧ q2 = none) ∧ (s1 = i ∧ -2147483648 ≤ i ∧ i ≤ 2147483647) ∧ (s2 = j ∧ -2147483648 ≤ j ∧ j ≤ 2147483647)) ∨ (∃ b, q1 = some ⟨b, 0, none⟩) ∨ (q1 = none ∧ ∃ b, q2 = some ⟨b, 0, none⟩) := by
    rcases c1 with ⟨rfl, e1, e2, e3⟩ | h
    · rcases c2 with ⟨rfl, f1, f2, f3⟩ | h2
      · exact .inl ⟨⟨rfl, rfl⟩, ⟨e1, e2, e3⟩, f1, f2, f3⟩
      · exact .inr (.inr ⟨rfl, h2⟩)
    · exact .inr (.inl h)
  clear c1 c2
  rcases core with ⟨⟨rfl, rfl⟩, ⟨rfl, i1, i2⟩, rfl, j1, j2⟩ | core
  · clear B1 B2 OPC MB START
    have MI : Hid (∀ W, Calls Try.prog 58 #[.int .i64 (bits .and .i64 s1 s2)] W (InPost (andI s1 s2) W)) := Lib.hid (fun W => by
      rw [bits_and_i64 s1 s2 i1 i2 j1 j2]
      exact makeSmallInt_any (andI s1 s2) W (small_of s1 s2 i1 i2 j1 j2).1.1 (small_of s1 s2 i1 i2 j1 j2).1.2)
    go_enter Try.func33, Try.ntmps33
    go_wp2_with fail
    refine (get_any _ _ _).mono ?_
    rintro e w1 ⟨rfl, hb1⟩
    have HB1 := Lib.hid (STEP0.out _ hb1)
    obtain ⟨⟨p0, p1, p2, p3⟩, _⟩ := KEEP.out _ HB1.out
    clear hb1
    go_wp2_with fail
    refine (get_any _ _ _).mono ?_
    rintro e w2 ⟨rfl, hb2⟩
    have HB0 := Lib.hid (STEP.out _ _ HB1.out hb2)
    clear hb2 HB1
    go_wp2_with fail
    refine (MI.out _).mono ?_
    rintro e w6 ⟨v, rfl, hin, hb6⟩
    obtain ⟨s6, q6, rfl⟩ := hin.form
    have F := Lib.hid (FIN.out _ _ s6 q6 HB0.out hb6 hin)
    obtain ⟨_, r0, r1, r2, r3⟩ := KEEP.out _ (STEP.out _ _ HB0.out hb6)
    clear hin hb6
    go_wp2_with fail
    refine bodyPost_ret (v := .agg #[.int .i64 s6, .pointer q6]) (by simp [results, Try.results33, go_sem, r0, r1]) rfl ?_
    exact F.out
  · have core2 : (q1 = none → ∃ b, q2 = some ⟨b, 0, none⟩) := by
      intro h
      rcases core with ⟨b, hb⟩ | ⟨_, h2⟩
      · rw [h] at hb; cases hb
      · exact h2
    rcases core with ⟨b1, rfl⟩ | ⟨rfl, b2, rfl⟩
    · clear core2
      go_enter Try.func33, Try.ntmps33
      go_wp2_with fail
      refine (get_any _ _ _).mono ?_
      rintro e w1 ⟨rfl, hb1⟩
      have HB1 := Lib.hid (STEP0.out _ hb1)
      obtain ⟨⟨p0, p1, p2, p3⟩, _⟩ := KEEP.out _ HB1.out
      clear hb1
      go_wp2_with fail
      refine (get_any _ _ _).mono ?_
      rintro e w2 ⟨rfl, hb2⟩
      have HB0 := Lib.hid (STEP.out _ _ HB1.out hb2)
      have HS := Lib.hid (START.out _ HB0.out)
      obtain ⟨⟨p0, p1, p2, p3⟩, _⟩ := KEEP.out _ HB0.out
      clear hb2 HB1
      go_wp2_with fail
      go_region_held3 (fun w' => w'.cell? ⟨w.heap.size, 0, none⟩ = some (.int .i64 s1) ∧ w'.cell? ⟨w.heap.size, 1, none⟩ = some (.pointer (some ⟨b1, 0, none⟩)) ∧ w'.cell? ⟨w.heap.size + 1, 0, none⟩ = some (.int .i64 s2) ∧ w'.cell? ⟨w.heap.size + 1, 1, none⟩ = some (.pointer q2)) (first | (refine ⟨?_, ?_, ?_, ?_⟩ <;> assumption) | exact (KEEP.out _ HS.out.alloc.below).1 | exact (KEEP.out _ HS.out.alloc.drew.below).1 | exact (KEEP.out _ HS.out.drew.alloc.below).1 | (refine ⟨?_, ?_, ?_, ?_⟩ <;> go_simp)) (first
        | (go_at_call 57; (with_reducible refine (B1.out _ _ _ (by first | exact HS.out | exact HS.out.drew | exact HS.out.alloc | exact HS.out.alloc.drew | exact HS.out.drew.alloc)).mono ?_); rintro e w3 ⟨d1, rfl, hs⟩; have HS := Lib.hid hs; obtain ⟨⟨p0, p1, p2, p3⟩, _⟩ := KEEP.out _ hs.below; clear hs)
        | (go_at_call 57; (with_reducible refine (B2.out _ _ _ (by first | exact HS.out | exact HS.out.drew | exact HS.out.alloc | exact HS.out.alloc.drew | exact HS.out.drew.alloc)).mono ?_); rintro e w4 ⟨d2, rfl, hs⟩; have HS := Lib.hid hs; obtain ⟨⟨p0, p1, p2, p3⟩, _⟩ := KEEP.out _ hs.below; clear hs)
        | (go_at_call 56; refine (OPC.out _ _ _ _ (by first | exact HS.out | exact HS.out.alloc)).mono ?_; rintro e w5 ⟨rfl, hbg, hbl⟩; have HG := Lib.hid hbg; have HBL := Lib.hid hbl; obtain ⟨⟨p0, p1, p2, p3⟩, _⟩ := KEEP.out _ hbl; clear hbg hbl)
        | (go_at_call 51; refine (MB.out _ _ HG.out).mono ?_; rintro e w6 ⟨v, rfl, hin, hb6⟩; obtain ⟨s6, q6, rfl⟩ := hin.form; have F := Lib.hid (FIN.out _ _ s6 q6 HBL.out hb6 hin); obtain ⟨⟨p0, p1, p2, p3⟩, r0, r1, r2, r3⟩ := KEEP.out _ (STEP.out _ _ HBL.out hb6); clear hin hb6))
      all_goals
        go_wp2_with fail
        refine bodyPost_ret (v := .agg #[.int .i64 s6, .pointer q6]) (by simp [results, Try.results33, go_sem, r0, r1]) rfl ?_
        exact F.out
    · clear core2
      go_enter Try.func33, Try.ntmps33
      go_wp2_with fail
      refine (get_any _ _ _).mono ?_
      rintro e w1 ⟨rfl, hb1⟩
      have HB1 := Lib.hid (STEP0.out _ hb1)
      obtain ⟨⟨p0, p1, p2, p3⟩, _⟩ := KEEP.out _ HB1.out
      clear hb1
      go_wp2_with fail
      refine (get_any _ _ _).mono ?_
      rintro e w2 ⟨rfl, hb2⟩
      have HB0 := Lib.hid (STEP.out _ _ HB1.out hb2)
      have HS := Lib.hid (START.out _ HB0.out)
      obtain ⟨⟨p0, p1, p2, p3⟩, _⟩ := KEEP.out _ HB0.out
      clear hb2 HB1
      go_wp2_with fail
      go_region_held3 (fun w' => w'.cell? ⟨w.heap.size, 0, none⟩ = some (.int .i64 s1) ∧ w'.cell? ⟨w.heap.size, 1, none⟩ = some (.pointer none) ∧ w'.cell? ⟨w.heap.size + 1, 0, none⟩ = some (.int .i64 s2) ∧ w'.cell? ⟨w.heap.size + 1, 1, none⟩ = some (.pointer (some ⟨b2, 0, none⟩))) (first | (refine ⟨?_, ?_, ?_, ?_⟩ <;> assumption) | exact (KEEP.out _ HS.out.alloc.below).1 | exact (KEEP.out _ HS.out.alloc.drew.below).1 | exact (KEEP.out _ HS.out.drew.alloc.below).1 | (refine ⟨?_, ?_, ?_, ?_⟩ <;> go_simp)) (first
        | (go_at_call 57; (with_reducible refine (B1.out _ _ _ (by first | exact HS.out | exact HS.out.drew | exact HS.out.alloc | exact HS.out.alloc.drew | exact HS.out.drew.alloc)).mono ?_); rintro e w3 ⟨d1, rfl, hs⟩; have HS := Lib.hid hs; obtain ⟨⟨p0, p1, p2, p3⟩, _⟩ := KEEP.out _ hs.below; clear hs)
        | (go_at_call 57; (with_reducible refine (B2.out _ _ _ (by first | exact HS.out | exact HS.out.drew | exact HS.out.alloc | exact HS.out.alloc.drew | exact HS.out.drew.alloc)).mono ?_); rintro e w4 ⟨d2, rfl, hs⟩; have HS := Lib.hid hs; obtain ⟨⟨p0, p1, p2, p3⟩, _⟩ := KEEP.out _ hs.below; clear hs)
        | (go_at_call 56; refine (OPC.out _ _ _ _ (by first | exact HS.out | exact HS.out.alloc)).mono ?_; rintro e w5 ⟨rfl, hbg, hbl⟩; have HG := Lib.hid hbg; have HBL := Lib.hid hbl; obtain ⟨⟨p0, p1, p2, p3⟩, _⟩ := KEEP.out _ hbl; clear hbg hbl)
        | (go_at_call 51; refine (MB.out _ _ HG.out).mono ?_; rintro e w6 ⟨v, rfl, hin, hb6⟩; obtain ⟨s6, q6, rfl⟩ := hin.form; have F := Lib.hid (FIN.out _ _ s6 q6 HBL.out hb6 hin); obtain ⟨⟨p0, p1, p2, p3⟩, r0, r1, r2, r3⟩ := KEEP.out _ (STEP.out _ _ HBL.out hb6); clear hin hb6))
      all_goals
        go_wp2_with fail
        refine bodyPost_ret (v := .agg #[.int .i64 s6, .pointer q6]) (by simp [results, Try.results33, go_sem, r0, r1]) rfl ?_
        exact F.out
end Go.Proofs.Ythnmkbdeoahiaaa

namespace Go.Proofs.Ythnmkbdeoahiaaa
open Go.RowKit Dig
set_option linter.unusedVariables false
set_option linter.unusedSimpArgs false
set_option maxRecDepth 100000

set_option maxHeartbeats 3200000 in
theorem intOr_any (i j : Int) (v1 v2 : Value) (w : World) (h1 : In w w.heap.size v1 i) (h2 : In w w.heap.size v2 j) (hi : i.natAbs < lim) (hj : j.natAbs < lim) (hr : (orI i j).natAbs < lim) :
    Calls Try.prog 34 #[v1, v2] w (InPost (orI i j) w) := by
  obtain ⟨s1, q1, rfl⟩ := h1.form
  obtain ⟨s2, q2, rfl⟩ := h2.form
  have c1 := h1.cases2
  have c2 := h2.cases2
  obtain ⟨W0, hW0⟩ : ∃ W0, W0 = ((w.alloc (.cells #[.int .i64 s1, .pointer q1] 70)).alloc (.cells #[.int .i64 s2, .pointer q2] 70)).alloc (.cells #[.int .i64 0, .pointer none] 70) := ⟨_, rfl⟩
  have hsz : W0.heap.size = w.heap.size + 3 := by rw [hW0]; simp
  have hb0 : Below w.heap.size w W0 := by rw [hW0]; exact (((Below.refl _ _).alloc (Nat.le_refl _) _).alloc (by simp) _).alloc (by simp; omega) _
  have hX : Blk W0 w.heap.size 70 [.int .i64 s1, .pointer q1] := by rw [hW0]; exact ((Blk.new w _ [.int .i64 s1, .pointer q1]).alloc _).alloc _
  have hY : Blk W0 (w.heap.size + 1) 70 [.int .i64 s2, .pointer q2] := by
    rw [hW0]
    have := (Blk.new (w.alloc (.cells #[.int .i64 s1, .pointer q1] 70)) 70 [.int .i64 s2, .pointer q2]).alloc (.cells #[.int .i64 0, .pointer none] 70)
    simpa using this
  have hZ : Blk W0 (w.heap.size + 1 + 1) 70 [.int .i64 0, .pointer none] := by
    rw [hW0]
    have := Blk.new ((w.alloc (.cells #[.int .i64 s1, .pointer q1] 70)).alloc (.cells #[.int .i64 s2, .pointer q2] 70)) 70 [.int .i64 0, .pointer none]
    simpa using this
  have STEP0 : Hid (∀ w1, Below W0.heap.size W0 w1 → Below (w.heap.size + 3) W0 w1) := Lib.hid (fun w1 h => h.mono (by omega))
  have STEP : Hid (∀ w1 w2, Below (w.heap.size + 3) W0 w1 → Below w1.heap.size w1 w2 → Below (w.heap.size + 3) W0 w2) := Lib.hid (fun w1 w2 h1 h2 => h1.trans (h2.mono (by have := h1.size; omega)))
  have START : Hid (∀ w1, Below (w.heap.size + 3) W0 w1 → St W0 (w.heap.size + 3) i j none none none w1) := Lib.hid (fun w1 h => St.start (by have := h.size; omega) h)
  have KEEP : Hid (∀ W, Below (w.heap.size + 3) W0 W → (W.cell? ⟨w.heap.size, 0, none⟩ = some (.int .i64 s1) ∧ W.cell? ⟨w.heap.size, 1, none⟩ = some (.pointer q1) ∧ W.cell? ⟨w.heap.size + 1, 0, none⟩ = some (.int .i64 s2) ∧ W.cell? ⟨w.heap.size + 1, 1, none⟩ = some (.pointer q2)) ∧
      (W.cell? ⟨w.heap.size + 1 + 1, 0, none⟩ = some (.int .i64 0) ∧ W.cell? ⟨w.heap.size + 1 + 1, 1, none⟩ = some (.pointer none) ∧ W.frozen? ⟨w.heap.size + 1 + 1, 0, none⟩ = false ∧ W.frozen? ⟨w.heap.size + 1 + 1, 1, none⟩ = false)) := Lib.hid (fun W h => by
    have hX' := hX.below h (by omega)
    have hY' := hY.below h (by omega)
    have hZ' := hZ.below h (by omega)
    exact ⟨⟨hX'.cell 0 (by simp), hX'.cell 1 (by simp), hY'.cell 0 (by simp), hY'.cell 1 (by simp)⟩, hZ'.cell 0 (by simp), hZ'.cell 1 (by simp), hZ'.free 0, hZ'.free 1⟩)
  have FIN : Hid (∀ (W W' : World) (s : Int) (q : Option Addr), Below (w.heap.size + 3) W0 W → Below W.heap.size W W' → In W' W'.heap.size (.agg #[.int .i64 s, .pointer q]) (orI i j) → InPost (orI i j) w (.returned (.agg #[.int .i64 s, .pointer q])) ((W'.setCell ⟨w.heap.size + 1 + 1, 0, none⟩ (.int .i64 s)).setCell ⟨w.heap.size + 1 + 1, 1, none⟩ (.pointer q))) := Lib.hid (by
    intro W W' s q h h' hin
    have hb : Below (w.heap.size + 3) W0 W' := h.trans (h'.mono (by have := h.size; omega))
    have := hin.store (w := w) (hZ.below hb (by omega)) (by simp [wv]) (hb0.trans (hb.mono (by omega))) (by omega)
    exact ⟨_, rfl, this.1, this.2⟩)
  have B1 : Hid (∀ oz o2 W, St W0 (w.heap.size + 3) i j oz none o2 W → Calls Try.prog 57 #[.agg #[.int .i64 s1, .pointer q1]] W fun e w' => ∃ b, e = .returned (.pointer (some ⟨b, 0, none⟩)) ∧ St W0 (w.heap.size + 3) i j oz (some b) o2 w') := Lib.hid (fun oz o2 W s => s.big1 h1 hb0 (by omega))
  have B2 : Hid (∀ oz o1 W, St W0 (w.heap.size + 3) i j oz o1 none W → Calls Try.prog 57 #[.agg #[.int .i64 s2, .pointer q2]] W fun e w' => ∃ b, e = .returned (.pointer (some ⟨b, 0, none⟩)) ∧ St W0 (w.heap.size + 3) i j oz o1 (some b) w') := Lib.hid (fun oz o1 W s => s.big2 h2 hb0 (by omega))
  have OPC : Hid (∀ z b1 b2 W, St W0 (w.heap.size + 3) i j (some z) (some b1) (some b2) W → Calls Try.prog 59 #[.pointer (some ⟨z, 0, none⟩), .pointer (some ⟨b1, 0, none⟩), .pointer (some ⟨b2, 0, none⟩)] W fun e w' => e = .returned (.pointer (some ⟨z, 0, none⟩)) ∧ Bg w' w'.heap.size (some ⟨z, 0, none⟩) (orI i j) ∧ Below (w.heap.size + 3) W0 w') := Lib.hid (fun z b1 b2 W s => s.op (fun z p q w hz hp hq hn1 hn2 => bigOr_any z p q i j w hz hp hq hn1 hn2 hi hj))
  have MB : Hid (∀ p W, Bg W W.heap.size p (orI i j) → Calls Try.prog 51 #[.pointer p] W (InPost (orI i j) W)) := Lib.hid (fun p W h => makeBigInt_any p _ W h hr)
  clear h1 h2 hsz hb0 hX hY hZ hi hj hr
  subst hW0
  have core : ((q1 = none ∧ q2 = none) ∧ (s1 = i ∧ -2147483648 ≤ i ∧ i ≤ 2147483647) ∧ (s2 = j ∧ -2147483648 ≤ j ∧ j ≤ 2147483647)) ∨ (∃ b, q1 = some ⟨b, 0, none⟩) ∨ (q1 = none ∧ ∃ b, q2 = some ⟨b, 0, none⟩) := by
    rcases c1 with ⟨rfl, e1, e2, e3⟩ | h
    · rcases c2 with ⟨rfl, f1, f2, f3⟩ | h2
      · exact .inl ⟨⟨rfl, rfl⟩, ⟨e1, e2, e3⟩, f1, f2, f3⟩
      · exact .inr (.inr ⟨rfl, h2⟩)
    · exact .inr (.inl h)
  clear c1 c2
  rcases core with ⟨⟨rfl, rfl⟩, ⟨rfl, i1, i2⟩, rfl, j1, j2⟩ | core
  · clear B1 B2 OPC MB START
    have MI : Hid (∀ W, Calls Try.prog 58 #[.int .i64 (bits .or .i64 s1 s2)] W (InPost (orI s1 s2) W)) := Lib.hid (fun W => by
      rw [bits_or_i64 s1 s2 i1 i2 j1 j2]
      exact makeSmallInt_any (orI s1 s2) W (small_of s1 s2 i1 i2 j1 j2).2.1.1 (small_of s1 s2 i1 i2 j1 j2).2.1.2)
    go_enter Try.func34, Try.ntmps34
    go_wp2_with fail
    refine (get_any _ _ _).mono ?_
    rintro e w1 ⟨rfl, hb1⟩
    have HB1 := Lib.hid (STEP0.out _ hb1)
    obtain ⟨⟨p0, p1, p2, p3⟩, _⟩ := KEEP.out _ HB1.out
    clear hb1
    go_wp2_with fail
    refine (get_any _ _ _).mono ?_
    rintro e w2 ⟨rfl, hb2⟩
    have HB0 := Lib.hid (STEP.out _ _ HB1.out hb2)
    clear hb2 HB1
    go_wp2_with fail
    refine (MI.out _).mono ?_
    rintro e w6 ⟨v, rfl, hin, hb6⟩
    obtain ⟨s6, q6, rfl⟩ := hin.form
    have F := Lib.hid (FIN.out _ _ s6 q6 HB0.out hb6 hin)
    obtain ⟨_, r0, r1, r2, r3⟩ := KEEP.out _ (STEP.out _ _ HB0.out hb6)
    clear hin hb6
    go_wp2_with fail
    refine bodyPost_ret (v := .agg #[.int .i64 s6, .pointer q6]) (by simp [results, Try.results34, go_sem, r0, r1]) rfl ?_
    exact F.out
  · have core2 : (q1 = none → ∃ b, q2 = some ⟨b, 0, none⟩) := by
      intro h
      rcases core with ⟨b, hb⟩ | ⟨_, h2⟩
      · rw [h] at hb; cases hb
      · exact h2
    rcases core with ⟨b1, rfl⟩ | ⟨rfl, b2, rfl⟩
    · clear core2
      go_enter Try.func34, Try.ntmps34
      go_wp2_with fail
      refine (get_any _ _ _).mono ?_
      rintro e w1 ⟨rfl, hb1⟩
      have HB1 := Lib.hid (STEP0.out _ hb1)
      obtain ⟨⟨p0, p1, p2, p3⟩, _⟩ := KEEP.out _ HB1.out
      clear hb1
      go_wp2_with fail
      refine (get_any _ _ _).mono ?_
      rintro e w2 ⟨rfl, hb2⟩
      have HB0 := Lib.hid (STEP.out _ _ HB1.out hb2)
      have HS := Lib.hid (START.out _ HB0.out)
      obtain ⟨⟨p0, p1, p2, p3⟩, _⟩ := KEEP.out _ HB0.out
      clear hb2 HB1
      go_wp2_with fail
      go_region_held3 (fun w' => w'.cell? ⟨w.heap.size, 0, none⟩ = some (.int .i64 s1) ∧ w'.cell? ⟨w.heap.size, 1, none⟩ = some (.pointer (some ⟨b1, 0, none⟩)) ∧ w'.cell? ⟨w.heap.size + 1, 0, none⟩ = some (.int .i64 s2) ∧ w'.cell? ⟨w.heap.size + 1, 1, none⟩ = some (.pointer q2)) (first | (refine ⟨?_, ?_, ?_, ?_⟩ <;> assumption) | exact (KEEP.out _ HS.out.alloc.below).1 | exact (KEEP.out _ HS.out.alloc.drew.below).1 | exact (KEEP.out _ HS.out.drew.alloc.below).1 | (refine ⟨?_, ?_, ?_, ?_⟩ <;> go_simp)) (first
        | (go_at_call 57; (with_reducible refine (B1.out _ _ _ (by first | exact HS.out | exact HS.out.drew | exact HS.out.alloc | exact HS.out.alloc.drew | exact HS.out.drew.alloc)).mono ?_); rintro e w3 ⟨d1, rfl, hs⟩; have HS := Lib.hid hs; obtain ⟨⟨p0, p1, p2, p3⟩, _⟩ := KEEP.out _ hs.below; clear hs)
        | (go_at_call 57; (with_reducible refine (B2.out _ _ _ (by first | exact HS.out | exact HS.out.drew | exact HS.out.alloc | exact HS.out.alloc.drew | exact HS.out.drew.alloc)).mono ?_); rintro e w4 ⟨d2, rfl, hs⟩; have HS := Lib.hid hs; obtain ⟨⟨p0, p1, p2, p3⟩, _⟩ := KEEP.out _ hs.below; clear hs)
        | (go_at_call 59; refine (OPC.out _ _ _ _ (by first | exact HS.out | exact HS.out.alloc)).mono ?_; rintro e w5 ⟨rfl, hbg, hbl⟩; have HG := Lib.hid hbg; have HBL := Lib.hid hbl; obtain ⟨⟨p0, p1, p2, p3⟩, _⟩ := KEEP.out _ hbl; clear hbg hbl)
        | (go_at_call 51; refine (MB.out _ _ HG.out).mono ?_; rintro e w6 ⟨v, rfl, hin, hb6⟩; obtain ⟨s6, q6, rfl⟩ := hin.form; have F := Lib.hid (FIN.out _ _ s6 q6 HBL.out hb6 hin); obtain ⟨⟨p0, p1, p2, p3⟩, r0, r1, r2, r3⟩ := KEEP.out _ (STEP.out _ _ HBL.out hb6); clear hin hb6))
      all_goals
        go_wp2_with fail
        refine bodyPost_ret (v := .agg #[.int .i64 s6, .pointer q6]) (by simp [results, Try.results34, go_sem, r0, r1]) rfl ?_
        exact F.out
    · clear core2
      go_enter Try.func34, Try.ntmps34
      go_wp2_with fail
      refine (get_any _ _ _).mono ?_
      rintro e w1 ⟨rfl, hb1⟩
      have HB1 := Lib.hid (STEP0.out _ hb1)
      obtain ⟨⟨p0, p1, p2, p3⟩, _⟩ := KEEP.out _ HB1.out
      clear hb1
      go_wp2_with fail
      refine (get_any _ _ _).mono ?_
      rintro e w2 ⟨rfl, hb2⟩
      have HB0 := Lib.hid (STEP.out _ _ HB1.out hb2)
      have HS := Lib.hid (START.out _ HB0.out)
      obtain ⟨⟨p0, p1, p2, p3⟩, _⟩ := KEEP.out _ HB0.out
      clear hb2 HB1
      go_wp2_with fail
      go_region_held3 (fun w' => w'.cell? ⟨w.heap.size, 0, none⟩ = some (.int .i64 s1) ∧ w'.cell? ⟨w.heap.size, 1, none⟩ = some (.pointer none) ∧ w'.cell? ⟨w.heap.size + 1, 0, none⟩ = some (.int .i64 s2) ∧ w'.cell? ⟨w.heap.size + 1, 1, none⟩ = some (.pointer (some ⟨b2, 0, none⟩))) (first | (refine ⟨?_, ?_, ?_, ?_⟩ <;> assumption) | exact (KEEP.out _ HS.out.alloc.below).1 | exact (KEEP.out _ HS.out.alloc.drew.below).1 | exact (KEEP.out _ HS.out.drew.alloc.below).1 | (refine ⟨?_, ?_, ?_, ?_⟩ <;> go_simp)) (first
        | (go_at_call 57; (with_reducible refine (B1.out _ _ _ (by first | exact HS.out | exact HS.out.drew | exact HS.out.alloc | exact HS.out.alloc.drew | exact HS.out.drew.alloc)).mono ?_); rintro e w3 ⟨d1, rfl, hs⟩; have HS := Lib.hid hs; obtain ⟨⟨p0, p1, p2, p3⟩, _⟩ := KEEP.out _ hs.below; clear hs)
        | (go_at_call 57; (with_reducible refine (B2.out _ _ _ (by first | exact HS.out | exact HS.out.drew | exact HS.out.alloc | exact HS.out.alloc.drew | exact HS.out.drew.alloc)).mono ?_); rintro e w4 ⟨d2, rfl, hs⟩; have HS := Lib.hid hs; obtain ⟨⟨p0, p1, p2, p3⟩, _⟩ := KEEP.out _ hs.below; clear hs)
        | (go_at_call 59; refine (OPC.out _ _ _ _ (by first | exact HS.out | exact HS.out.alloc)).mono ?_; rintro e w5 ⟨rfl, hbg, hbl⟩; have HG := Lib.hid hbg; have HBL := Lib.hid hbl; obtain ⟨⟨p0, p1, p2, p3⟩, _⟩ := KEEP.out _ hbl; clear hbg hbl)
        | (go_at_call 51; refine (MB.out _ _ HG.out).mono ?_; rintro e w6 ⟨v, rfl, hin, hb6⟩; obtain ⟨s6, q6, rfl⟩ := hin.form; have F := Lib.hid (FIN.out _ _ s6 q6 HBL.out hb6 hin); obtain ⟨⟨p0, p1, p2, p3⟩, r0, r1, r2, r3⟩ := KEEP.out _ (STEP.out _ _ HBL.out hb6); clear hin hb6))
      all_goals
        go_wp2_with fail
        refine bodyPost_ret (v := .agg #[.int .i64 s6, .pointer q6]) (by simp [results, Try.results34, go_sem, r0, r1]) rfl ?_
        exact F.out
end Go.Proofs.Ythnmkbdeoahiaaa

namespace Go.Proofs.Ythnmkbdeoahiaaa
open Go.RowKit Dig
set_option linter.unusedVariables false
set_option linter.unusedSimpArgs false
set_option maxRecDepth 100000

set_option maxHeartbeats 3200000 in
theorem intXor_any (i j : Int) (v1 v2 : Value) (w : World) (h1 : In w w.heap.size v1 i) (h2 : In w w.heap.size v2 j) (hi : i.natAbs < lim) (hj : j.natAbs < lim) (hr : (xorI i j).natAbs < lim) :
    Calls Try.prog 39 #[v1, v2] w (InPost (xorI i j) w) := by
  obtain ⟨s1, q1, rfl⟩ := h1.form
  obtain ⟨s2, q2, rfl⟩ := h2.form
  have c1 := h1.cases2
  have c2 := h2.cases2
  obtain ⟨W0, hW0⟩ : ∃ W0, W0 = ((w.alloc (.cells #[.int .i64 s1, .pointer q1] 70)).alloc (.cells #[.int .i64 s2, .pointer q2] 70)).alloc (.cells #[.int .i64 0, .pointer none] 70) := ⟨_, rfl⟩
  have hsz : W0.heap.size = w.heap.size + 3 := by rw [hW0]; simp
  have hb0 : Below w.heap.size w W0 := by rw [hW0]; exact (((Below.refl _ _).alloc (Nat.le_refl _) _).alloc (by simp) _).alloc (by simp; omega) _
  have hX : Blk W0 w.heap.size 70 [.int .i64 s1, .pointer q1] := by rw [hW0]; exact ((Blk.new w _ [.int .i64 s1, .pointer q1]).alloc _).alloc _
  have hY : Blk W0 (w.heap.size + 1) 70 [.int .i64 s2, .pointer q2] := by
    rw [hW0]
    have := (Blk.new (w.alloc (.cells #[.int .i64 s1, .pointer q1] 70)) 70 [.int .i64 s2, .pointer q2]).alloc (.cells #[.int .i64 0, .pointer none] 70)
    simpa using this
  have hZ : Blk W0 (w.heap.size + 1 + 1) 70 [.int .i64 0, .pointer none] := by
    rw [hW0]
    have := Blk.new ((w.alloc (.cells #[.int .i64 s1, .pointer q1] 70)).alloc (.cells #[.int .i64 s2, .pointer q2] 70)) 70 [.int .i64 0, .pointer none]
    simpa using this
  have STEP0 : Hid (∀ w1, Below W0.heap.size W0 w1 → Below (w.heap.size + 3) W0 w1) := Lib.hid (fun w1 h => h.mono (by omega))
  have STEP : Hid (∀ w1 w2, Below (w.heap.size + 3) W0 w1 → Below w1.heap.size w1 w2 → Below (w.heap.size + 3) W0 w2) := Lib.hid (fun w1 w2 h1 h2 => h1.trans (h2.mono (by have := h1.size; omega)))
  have START : Hid (∀ w1, Below (w.heap.size + 3) W0 w1 → St W0 (w.heap.size + 3) i j none none none w1) := Lib.hid (fun w1 h => St.start (by have := h.size; omega) h)
  have KEEP : Hid (∀ W, Below (w.heap.size + 3) W0 W → (W.cell? ⟨w.heap.size, 0, none⟩ = some (.int .i64 s1) ∧ W.cell? ⟨w.heap.size, 1, none⟩ = some (.pointer q1) ∧ W.cell? ⟨w.heap.size + 1, 0, none⟩ = some (.int .i64 s2) ∧ W.cell? ⟨w.heap.size + 1, 1, none⟩ = some (.pointer q2)) ∧
      (W.cell? ⟨w.heap.size + 1 + 1, 0, none⟩ = some (.int .i64 0) ∧ W.cell? ⟨w.heap.size + 1 + 1, 1, none⟩ = some (.pointer none) ∧ W.frozen? ⟨w.heap.size + 1 + 1, 0, none⟩ = false ∧ W.frozen? ⟨w.heap.size + 1 + 1, 1, none⟩ = false)) := Lib.hid (fun W h => by
    have hX' := hX.below h (by omega)
    have hY' := hY.below h (by omega)
    have hZ' := hZ.below h (by omega)
    exact ⟨⟨hX'.cell 0 (by simp), hX'.cell 1 (by simp), hY'.cell 0 (by simp), hY'.cell 1 (by simp)⟩, hZ'.cell 0 (by simp), hZ'.cell 1 (by simp), hZ'.free 0, hZ'.free 1⟩)
  have FIN : Hid (∀ (W W' : World) (s : Int) (q : Option Addr), Below (w.heap.size + 3) W0 W → Below W.heap.size W W' → In W' W'.heap.size (.agg #[.int .i64 s, .pointer q]) (xorI i j) → InPost (xorI i j) w (.returned (.agg #[.int .i64 s, .pointer q])) ((W'.setCell ⟨w.heap.size + 1 + 1, 0, none⟩ (.int .i64 s)).setCell ⟨w.heap.size + 1 + 1, 1, none⟩ (.pointer q))) := Lib.hid (by
    intro W W' s q h h' hin
    have hb : Below (w.heap.size + 3) W0 W' := h.trans (h'.mono (by have := h.size; omega))
    have := hin.store (w := w) (hZ.below hb (by omega)) (by simp [wv]) (hb0.trans (hb.mono (by omega))) (by omega)
    exact ⟨_, rfl, this.1, this.2⟩)
  have B1 : Hid (∀ oz o2 W, St W0 (w.heap.size + 3) i j oz none o2 W → Calls Try.prog 57 #[.agg #[.int .i64 s1, .pointer q1]] W fun e w' => ∃ b, e = .returned (.pointer (some ⟨b, 0, none⟩)) ∧ St W0 (w.heap.size + 3) i j oz (some b) o2 w') := Lib.hid (fun oz o2 W s => s.big1 h1 hb0 (by omega))
  have B2 : Hid (∀ oz o1 W, St W0 (w.heap.size + 3) i j oz o1 none W → Calls Try.prog 57 #[.agg #[.int .i64 s2, .pointer q2]] W fun e w' => ∃ b, e = .returned (.pointer (some ⟨b, 0, none⟩)) ∧ St W0 (w.heap.size + 3) i j oz o1 (some b) w') := Lib.hid (fun oz o1 W s => s.big2 h2 hb0 (by omega))
  have OPC : Hid (∀ z b1 b2 W, St W0 (w.heap.size + 3) i j (some z) (some b1) (some b2) W → Calls Try.prog 62 #[.pointer (some ⟨z, 0, none⟩), .pointer (some ⟨b1, 0, none⟩), .pointer (some ⟨b2, 0, none⟩)] W fun e w' => e = .returned (.pointer (some ⟨z, 0, none⟩)) ∧ Bg w' w'.heap.size (some ⟨z, 0, none⟩) (xorI i j) ∧ Below (w.heap.size + 3) W0 w') := Lib.hid (fun z b1 b2 W s => s.op (fun z p q w hz hp hq hn1 hn2 => bigXor_any z p q i j w hz hp hq hn1 hn2 hi hj))
  have MB : Hid (∀ p W, Bg W W.heap.size p (xorI i j) → Calls Try.prog 51 #[.pointer p] W (InPost (xorI i j) W)) := Lib.hid (fun p W h => makeBigInt_any p _ W h hr)
  clear h1 h2 hsz hb0 hX hY hZ hi hj hr
  subst hW0
  have core : ((q1 = none ∧ q2 = none) ∧ (s1 = i ∧ -2147483648 ≤ i ∧ i ≤ 2147483647) ∧ (s2 = j ∧ -2147483648 ≤ j ∧ j ≤ 2147483647)) ∨ (∃ b, q1 = some ⟨b, 0, none⟩) ∨ (q1 = none ∧ ∃ b, q2 = some ⟨b, 0, none⟩) := by
    rcases c1 with ⟨rfl, e1, e2, e3⟩ | h
    · rcases c2 with ⟨rfl, f1, f2, f3⟩ | h2
      · exact .inl ⟨⟨rfl, rfl⟩, ⟨e1, e2, e3⟩, f1, f2, f3⟩
      · exact .inr (.inr ⟨rfl, h2⟩)
    · exact .inr (.inl h)
  clear c1 c2
  rcases core with ⟨⟨rfl, rfl⟩, ⟨rfl, i1, i2⟩, rfl, j1, j2⟩ | core
  · clear B1 B2 OPC MB START
    have MI : Hid (∀ W, Calls Try.prog 58 #[.int .i64 (bits .xor .i64 s1 s2)] W (InPost (xorI s1 s2) W)) := Lib.hid (fun W => by
      rw [bits_xor_i64 s1 s2 i1 i2 j1 j2]
      exact makeSmallInt_any (xorI s1 s2) W (small_of s1 s2 i1 i2 j1 j2).2.2.1 (small_of s1 s2 i1 i2 j1 j2).2.2.2)
    go_enter Try.func39, Try.ntmps39
    go_wp2_with fail
    refine (get_any _ _ _).mono ?_
    rintro e w1 ⟨rfl, hb1⟩
    have HB1 := Lib.hid (STEP0.out _ hb1)
    obtain ⟨⟨p0, p1, p2, p3⟩, _⟩ := KEEP.out _ HB1.out
    clear hb1
    go_wp2_with fail
    refine (get_any _ _ _).mono ?_
    rintro e w2 ⟨rfl, hb2⟩
    have HB0 := Lib.hid (STEP.out _ _ HB1.out hb2)
    clear hb2 HB1
    go_wp2_with fail
    refine (MI.out _).mono ?_
    rintro e w6 ⟨v, rfl, hin, hb6⟩
    obtain ⟨s6, q6, rfl⟩ := hin.form
    have F := Lib.hid (FIN.out _ _ s6 q6 HB0.out hb6 hin)
    obtain ⟨_, r0, r1, r2, r3⟩ := KEEP.out _ (STEP.out _ _ HB0.out hb6)
    clear hin hb6
    go_wp2_with fail
    refine bodyPost_ret (v := .agg #[.int .i64 s6, .pointer q6]) (by simp [results, Try.results39, go_sem, r0, r1]) rfl ?_
    exact F.out
  · have core2 : (q1 = none → ∃ b, q2 = some ⟨b, 0, none⟩) := by
      intro h
      rcases core with ⟨b, hb⟩ | ⟨_, h2⟩
      · rw [h] at hb; cases hb
      · exact h2
    rcases core with ⟨b1, rfl⟩ | ⟨rfl, b2, rfl⟩
    · clear core2
      go_enter Try.func39, Try.ntmps39
      go_wp2_with fail
      refine (get_any _ _ _).mono ?_
      rintro e w1 ⟨rfl, hb1⟩
      have HB1 := Lib.hid (STEP0.out _ hb1)
      obtain ⟨⟨p0, p1, p2, p3⟩, _⟩ := KEEP.out _ HB1.out
      clear hb1
      go_wp2_with fail
      refine (get_any _ _ _).mono ?_
      rintro e w2 ⟨rfl, hb2⟩
      have HB0 := Lib.hid (STEP.out _ _ HB1.out hb2)
      have HS := Lib.hid (START.out _ HB0.out)
      obtain ⟨⟨p0, p1, p2, p3⟩, _⟩ := KEEP.out _ HB0.out
      clear hb2 HB1
      go_wp2_with fail
      go_region_held3 (fun w' => w'.cell? ⟨w.heap.size, 0, none⟩ = some (.int .i64 s1) ∧ w'.cell? ⟨w.heap.size, 1, none⟩ = some (.pointer (some ⟨b1, 0, none⟩)) ∧ w'.cell? ⟨w.heap.size + 1, 0, none⟩ = some (.int .i64 s2) ∧ w'.cell? ⟨w.heap.size + 1, 1, none⟩ = some (.pointer q2)) (first | (refine ⟨?_, ?_, ?_, ?_⟩ <;> assumption) | exact (KEEP.out _ HS.out.alloc.below).1 | exact (KEEP.out _ HS.out.alloc.drew.below).1 | exact (KEEP.out _ HS.out.drew.alloc.below).1 | (refine ⟨?_, ?_, ?_, ?_⟩ <;> go_simp)) (first
        | (go_at_call 57; (with_reducible refine (B1.out _ _ _ (by first | exact HS.out | exact HS.out.drew | exact HS.out.alloc | exact HS.out.alloc.drew | exact HS.out.drew.alloc)).mono ?_); rintro e w3 ⟨d1, rfl, hs⟩; have HS := Lib.hid hs; obtain ⟨⟨p0, p1, p2, p3⟩, _⟩ := KEEP.out _ hs.below; clear hs)
        | (go_at_call 57; (with_reducible refine (B2.out _ _ _ (by first | exact HS.out | exact HS.out.drew | exact HS.out.alloc | exact HS.out.alloc.drew | exact HS.out.drew.alloc)).mono ?_); rintro e w4 ⟨d2, rfl, hs⟩; have HS := Lib.hid hs; obtain ⟨⟨p0, p1, p2, p3⟩, _⟩ := KEEP.out _ hs.below; clear hs)
        | (go_at_call 62; refine (OPC.out _ _ _ _ (by first | exact HS.out | exact HS.out.alloc)).mono ?_; rintro e w5 ⟨rfl, hbg, hbl⟩; have HG := Lib.hid hbg; have HBL := Lib.hid hbl; obtain ⟨⟨p0, p1, p2, p3⟩, _⟩ := KEEP.out _ hbl; clear hbg hbl)
        | (go_at_call 51; refine (MB.out _ _ HG.out).mono ?_; rintro e w6 ⟨v, rfl, hin, hb6⟩; obtain ⟨s6, q6, rfl⟩ := hin.form; have F := Lib.hid (FIN.out _ _ s6 q6 HBL.out hb6 hin); obtain ⟨⟨p0, p1, p2, p3⟩, r0, r1, r2, r3⟩ := KEEP.out _ (STEP.out _ _ HBL.out hb6); clear hin hb6))
      all_goals
        go_wp2_with fail
        refine bodyPost_ret (v := .agg #[.int .i64 s6, .pointer q6]) (by simp [results, Try.results39, go_sem, r0, r1]) rfl ?_
        exact F.out
    · clear core2
      go_enter Try.func39, Try.ntmps39
      go_wp2_with fail
      refine (get_any _ _ _).mono ?_
      rintro e w1 ⟨rfl, hb1⟩
      have HB1 := Lib.hid (STEP0.out _ hb1)
      obtain ⟨⟨p0, p1, p2, p3⟩, _⟩ := KEEP.out _ HB1.out
      clear hb1
      go_wp2_with fail
      refine (get_any _ _ _).mono ?_
      rintro e w2 ⟨rfl, hb2⟩
      have HB0 := Lib.hid (STEP.out _ _ HB1.out hb2)
      have HS := Lib.hid (START.out _ HB0.out)
      obtain ⟨⟨p0, p1, p2, p3⟩, _⟩ := KEEP.out _ HB0.out
      clear hb2 HB1
      go_wp2_with fail
      go_region_held3 (fun w' => w'.cell? ⟨w.heap.size, 0, none⟩ = some (.int .i64 s1) ∧ w'.cell? ⟨w.heap.size, 1, none⟩ = some (.pointer none) ∧ w'.cell? ⟨w.heap.size + 1, 0, none⟩ = some (.int .i64 s2) ∧ w'.cell? ⟨w.heap.size + 1, 1, none⟩ = some (.pointer (some ⟨b2, 0, none⟩))) (first | (refine ⟨?_, ?_, ?_, ?_⟩ <;> assumption) | exact (KEEP.out _ HS.out.alloc.below).1 | exact (KEEP.out _ HS.out.alloc.drew.below).1 | exact (KEEP.out _ HS.out.drew.alloc.below).1 | (refine ⟨?_, ?_, ?_, ?_⟩ <;> go_simp)) (first
        | (go_at_call 57; (with_reducible refine (B1.out _ _ _ (by first | exact HS.out | exact HS.out.drew | exact HS.out.alloc | exact HS.out.alloc.drew | exact HS.out.drew.alloc)).mono ?_); rintro e w3 ⟨d1, rfl, hs⟩; have HS := Lib.hid hs; obtain ⟨⟨p0, p1, p2, p3⟩, _⟩ := KEEP.out _ hs.below; clear hs)
        | (go_at_call 57; (with_reducible refine (B2.out _ _ _ (by first | exact HS.out | exact HS.out.drew | exact HS.out.alloc | exact HS.out.alloc.drew | exact HS.out.drew.alloc)).mono ?_); rintro e w4 ⟨d2, rfl, hs⟩; have HS := Lib.hid hs; obtain ⟨⟨p0, p1, p2, p3⟩, _⟩ := KEEP.out _ hs.below; clear hs)
        | (go_at_call 62; refine (OPC.out _ _ _ _ (by first | exact HS.out | exact HS.out.alloc)).mono ?_; rintro e w5 ⟨rfl, hbg, hbl⟩; have HG := Lib.hid hbg; have HBL := Lib.hid hbl; obtain ⟨⟨p0, p1, p2, p3⟩, _⟩ := KEEP.out _ hbl; clear hbg hbl)
        | (go_at_call 51; refine (MB.out _ _ HG.out).mono ?_; rintro e w6 ⟨v, rfl, hin, hb6⟩; obtain ⟨s6, q6, rfl⟩ := hin.form; have F := Lib.hid (FIN.out _ _ s6 q6 HBL.out hb6 hin); obtain ⟨⟨p0, p1, p2, p3⟩, r0, r1, r2, r3⟩ := KEEP.out _ (STEP.out _ _ HBL.out hb6); clear hin hb6))
      all_goals
        go_wp2_with fail
        refine bodyPost_ret (v := .agg #[.int .i64 s6, .pointer q6]) (by simp [results, Try.results39, go_sem, r0, r1]) rfl ?_
        exact F.out
end Go.Proofs.Ythnmkbdeoahiaaa

namespace Go.Proofs.Ythnmkbdeoahiaaa
open Go.RowKit Dig
set_option linter.unusedVariables false
set_option linter.unusedSimpArgs false
set_option maxRecDepth 100000

theorem xor_all (s : Int) : xorI (-1) s = notI s := by
  unfold xorI notI
  rw [if_pos (by omega), show ((-1 : Int).natAbs - 1) = 0 from rfl]
  split
  · rw [fxor_comm, fxor_zero]; omega
  · rw [fxor_zero]; omega
set_option maxHeartbeats 1600000 in
theorem intNot_any (i : Int) (v1 : Value) (w : World) (h1 : In w w.heap.size v1 i) (hi : i.natAbs < lim) (hr : (notI i).natAbs < lim) :
    Calls Try.prog 42 #[v1] w (InPost (notI i) w) := by
  obtain ⟨s, q, rfl, hcase⟩ := id h1
  obtain ⟨W0, hW0⟩ : ∃ W0, W0 = (w.alloc (.cells #[.int .i64 s, .pointer q] 70)).alloc (.cells #[.int .i64 0, .pointer none] 70) := ⟨_, rfl⟩
  have hsz : W0.heap.size = w.heap.size + 2 := by rw [hW0]; simp
  have hb0 : Below w.heap.size w W0 := by rw [hW0]; exact ((Below.refl _ _).alloc (Nat.le_refl _) _).alloc (by simp) _
  have hZ : Blk W0 (w.heap.size + 1) 70 [.int .i64 0, .pointer none] := by
    rw [hW0]
    have := Blk.new (w.alloc (.cells #[.int .i64 s, .pointer q] 70)) 70 [.int .i64 0, .pointer none]
    simpa using this
  have STEP : Hid (∀ w1 w2, Below W0.heap.size W0 w1 → Below w1.heap.size w1 w2 → Below W0.heap.size W0 w2) := Lib.hid (fun w1 w2 h1 h2 => h1.trans (h2.mono h1.size))
  have KEEP : Hid (∀ W, Below W0.heap.size W0 W → (W.cell? ⟨w.heap.size + 1, 0, none⟩ = some (.int .i64 0) ∧ W.cell? ⟨w.heap.size + 1, 1, none⟩ = some (.pointer none) ∧ W.frozen? ⟨w.heap.size + 1, 0, none⟩ = false ∧ W.frozen? ⟨w.heap.size + 1, 1, none⟩ = false)) := Lib.hid (fun W h => by
    have hZ' := hZ.below h (by omega)
    exact ⟨hZ'.cell 0 (by simp), hZ'.cell 1 (by simp), hZ'.free 0, hZ'.free 1⟩)
  have FIN : Hid (∀ (W W' : World) (s : Int) (q : Option Addr), Below W0.heap.size W0 W → Below W.heap.size W W' → In W' W'.heap.size (.agg #[.int .i64 s, .pointer q]) (notI i) → InPost (notI i) w (.returned (.agg #[.int .i64 s, .pointer q])) ((W'.setCell ⟨w.heap.size + 1, 0, none⟩ (.int .i64 s)).setCell ⟨w.heap.size + 1, 1, none⟩ (.pointer q))) := Lib.hid (by
    intro W W' s q h h' hin
    have hb : Below W0.heap.size W0 W' := h.trans (h'.mono h.size)
    have := hin.store (w := w) (hZ.below hb (by omega)) (by simp [wv]) (hb0.trans (hb.mono (by omega))) (by omega)
    exact ⟨_, rfl, this.1, this.2⟩)
  have MB : Hid (∀ p W, Bg W W.heap.size p (notI i) → Calls Try.prog 51 #[.pointer p] W (InPost (notI i) W)) := Lib.hid (fun p W h => makeBigInt_any p _ W h hr)
  have OPC : Hid (∀ W, Below W0.heap.size W0 W → ∀ p, Bg w w.heap.size p i → Calls Try.prog 66 #[.pointer (some ⟨W.heap.size, 0, none⟩), .pointer p] (W.alloc (.cells #[.bool false, .slice none 0 0] 89)) fun e w' => e = .returned (.pointer (some ⟨W.heap.size, 0, none⟩)) ∧ Bg w' w'.heap.size (some ⟨W.heap.size, 0, none⟩) (notI i) ∧ Below W0.heap.size W0 w') := Lib.hid (fun W hb p hp => by
    have g : Below w.heap.size w W := hb0.trans (hb.mono hb0.size)
    have b1 : Below W.heap.size W (W.alloc (.cells #[.bool false, .slice none 0 0] 89)) := (Below.refl _ _).alloc (Nat.le_refl _) _
    have hp2 := (hp.below (g.trans (b1.mono g.size))).more (g.trans (b1.mono g.size)).size
    have hne : p ≠ some ⟨W.heap.size, 0, none⟩ := by
      obtain ⟨b, abs, rfl, hb, _⟩ := hp
      intro h; injection h with h; injection h with h
      have := g.size; omega
    refine (bigNot_any W.heap.size p i _ (Blk.new W _ [.bool false, .slice none 0 0]) hp2 hne hi).mono ?_
    rintro e w' ⟨rfl, hbg, hu⟩
    exact ⟨rfl, hbg, hb.trans ((b1.trans (hu.below (by simp) (fun k hk => by injection hk with hk; omega))).mono hb.size)⟩)
  have START : Hid (∀ w1, Below W0.heap.size W0 w1 → Below W0.heap.size W0 w1) := Lib.hid (fun _ h => h)
  rcases hcase with ⟨rfl, rfl, h1, h2⟩ | ⟨rfl, _, hbg⟩
  · have MI : Hid (∀ W, Calls Try.prog 58 #[.int .i64 (bits .xor .i64 (-1) s)] W (InPost (notI s) W)) := Lib.hid (fun W => by
      rw [bits_xor_i64 (-1) s (by omega) (by omega) h1 h2, xor_all]
      exact makeSmallInt_any (notI s) W (by unfold notI; omega) (by unfold notI; omega))
    clear hsz hb0 hZ hi hr MB OPC
    subst hW0
    go_enter Try.func42, Try.ntmps42
    go_wp2_with fail
    refine (get_any _ _ _).mono ?_
    rintro e w1 ⟨rfl, hb1⟩
    have HB1 := Lib.hid (START.out _ hb1)
    obtain ⟨z0, z1, f0, f1⟩ := KEEP.out _ HB1.out
    clear hb1
    go_wp2_with fail
    refine (MI.out _).mono ?_
    rintro e w6 ⟨v, rfl, hin, hb6⟩
    obtain ⟨s6, q6, rfl⟩ := hin.form
    have F := Lib.hid (FIN.out _ _ s6 q6 HB1.out hb6 hin)
    obtain ⟨r0, r1, r2, r3⟩ := KEEP.out _ (STEP.out _ _ HB1.out hb6)
    clear hin hb6
    go_wp2_with fail
    refine bodyPost_ret (v := .agg #[.int .i64 s6, .pointer q6]) (by simp [results, Try.results42, go_sem, r0, r1]) rfl ?_
    exact F.out
  · have OP2 := Lib.hid (fun W h => OPC.out W h q hbg)
    obtain ⟨b, abs, rfl, _⟩ := id hbg
    clear hsz hb0 hZ hi hr OPC hbg h1
    subst hW0
    go_enter Try.func42, Try.ntmps42
    go_wp2_with fail
    refine (get_any _ _ _).mono ?_
    rintro e w1 ⟨rfl, hb1⟩
    have HB1 := Lib.hid (START.out _ hb1)
    obtain ⟨z0, z1, f0, f1⟩ := KEEP.out _ HB1.out
    clear hb1
    go_wp2_with fail
    refine (OP2.out _ HB1.out).mono ?_
    rintro e w5 ⟨rfl, hbg, hbl⟩
    have HG := Lib.hid hbg; have HBL := Lib.hid hbl
    obtain ⟨z0, z1, f0, f1⟩ := KEEP.out _ HBL.out
    clear hbg hbl
    go_wp2_with fail
    refine (MB.out _ _ HG.out).mono ?_
    rintro e w6 ⟨v, rfl, hin, hb6⟩
    obtain ⟨s6, q6, rfl⟩ := hin.form
    have F := Lib.hid (FIN.out _ _ s6 q6 HBL.out hb6 hin)
    obtain ⟨r0, r1, r2, r3⟩ := KEEP.out _ (STEP.out _ _ HBL.out hb6)
    clear hin hb6
    go_wp2_with fail
    refine bodyPost_ret (v := .agg #[.int .i64 s6, .pointer q6]) (by simp [results, Try.results42, go_sem, r0, r1]) rfl ?_
    exact F.out
end Go.Proofs.Ythnmkbdeoahiaaa
