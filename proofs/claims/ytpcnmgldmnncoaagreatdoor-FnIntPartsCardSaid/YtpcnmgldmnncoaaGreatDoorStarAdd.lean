/- (starlark.Int).Add: of two integers of the package, small or great. -/
import Derived.Test.YtpcnmgldmnncoaaGreatDoorStar
import Derived.Test.YtpcnmgldmnncoaaGreatDoorBigAdd
import Derived.Deep.RegionHeld3
namespace Go.Proofs.YtpcnmgldmnncoaaGreatDoor
open Go.RowKit Dig
set_option linter.unusedVariables false
set_option linter.unusedSimpArgs false
set_option maxRecDepth 100000

set_option maxHeartbeats 3200000 in
theorem intAdd_any (i j : Int) (v1 v2 : Value) (w : World) (h1 : In w w.heap.size v1 i) (h2 : In w w.heap.size v2 j) (hi : i.natAbs < lim) (hj : j.natAbs < lim) (hr : (i + j).natAbs < lim) :
    Calls Tryz.prog 20 #[v1, v2] w (InPost (i + j) w) := by
  obtain ⟨s1, q1, rfl⟩ := h1.form
  obtain ⟨s2, q2, rfl⟩ := h2.form
  have c1 := h1.cases2
  have c2 := h2.cases2
  obtain ⟨W0, hW0⟩ : ∃ W0, W0 = ((w.alloc (.cells #[.int .i64 s1, .pointer q1] 44)).alloc (.cells #[.int .i64 s2, .pointer q2] 44)).alloc (.cells #[.int .i64 0, .pointer none] 44) := ⟨_, rfl⟩
  have hsz : W0.heap.size = w.heap.size + 3 := by rw [hW0]; simp
  have hb0 : Below w.heap.size w W0 := by rw [hW0]; exact (((Below.refl _ _).alloc (Nat.le_refl _) _).alloc (by simp) _).alloc (by simp; omega) _
  have hX : Blk W0 w.heap.size 44 [.int .i64 s1, .pointer q1] := by rw [hW0]; exact ((Blk.new w _ [.int .i64 s1, .pointer q1]).alloc _).alloc _
  have hY : Blk W0 (w.heap.size + 1) 44 [.int .i64 s2, .pointer q2] := by
    rw [hW0]
    have := (Blk.new (w.alloc (.cells #[.int .i64 s1, .pointer q1] 44)) 44 [.int .i64 s2, .pointer q2]).alloc (.cells #[.int .i64 0, .pointer none] 44)
    simpa using this
  have hZ : Blk W0 (w.heap.size + 1 + 1) 44 [.int .i64 0, .pointer none] := by
    rw [hW0]
    have := Blk.new ((w.alloc (.cells #[.int .i64 s1, .pointer q1] 44)).alloc (.cells #[.int .i64 s2, .pointer q2] 44)) 44 [.int .i64 0, .pointer none]
    simpa using this
  have STEP0 : Hid (∀ w1, Below W0.heap.size W0 w1 → Below (w.heap.size + 3) W0 w1) := Lib.hid (fun w1 h => h.mono (by omega))
  have STEP : Hid (∀ w1 w2, Below (w.heap.size + 3) W0 w1 → Below w1.heap.size w1 w2 → Below (w.heap.size + 3) W0 w2) := Lib.hid (fun w1 w2 h1 h2 => h1.trans (h2.mono (by have := h1.size; omega)))
  have START : Hid (∀ w1, Below (w.heap.size + 3) W0 w1 → St W0 (w.heap.size + 3) i j none none none w1) := Lib.hid (fun w1 h => St.start (by have := h.size; omega) h)
  have KEEP : Hid (∀ W, Below (w.heap.size + 3) W0 W → (W.cell? ⟨w.heap.size, 0, none⟩ = some (.int .i64 s1) ∧ W.cell? ⟨w.heap.size, 1, none⟩ = some (.pointer q1) ∧ W.cell? ⟨w.heap.size + 1, 0, none⟩ = some (.int .i64 s2) ∧ W.cell? ⟨w.heap.size + 1, 1, none⟩ = some (.pointer q2)) ∧
      (W.cell? ⟨w.heap.size + 1 + 1, 0, none⟩ = some (.int .i64 0) ∧ W.cell? ⟨w.heap.size + 1 + 1, 1, none⟩ = some (.pointer none) ∧ W.frozen? ⟨w.heap.size + 1 + 1, 0, none⟩ = false ∧ W.frozen? ⟨w.heap.size + 1 + 1, 1, none⟩ = false)) := Lib.hid (fun W h => by
    have hX' := hX.below h (by omega)
    have hY' := hY.below h (by omega)
    have hZ' := hZ.below h (by omega)
    exact ⟨⟨hX'.cell 0 (by simp), hX'.cell 1 (by simp), hY'.cell 0 (by simp), hY'.cell 1 (by simp)⟩, hZ'.cell 0 (by simp), hZ'.cell 1 (by simp), hZ'.free 0, hZ'.free 1⟩)
  have FIN : Hid (∀ (W W' : World) (s : Int) (q : Option Addr), Below (w.heap.size + 3) W0 W → Below W.heap.size W W' → In W' W'.heap.size (.agg #[.int .i64 s, .pointer q]) (i + j) → InPost (i + j) w (.returned (.agg #[.int .i64 s, .pointer q])) ((W'.setCell ⟨w.heap.size + 1 + 1, 0, none⟩ (.int .i64 s)).setCell ⟨w.heap.size + 1 + 1, 1, none⟩ (.pointer q))) := Lib.hid (by
    intro W W' s q h h' hin
    have hb : Below (w.heap.size + 3) W0 W' := h.trans (h'.mono (by have := h.size; omega))
    have := hin.store (w := w) (hZ.below hb (by omega)) (by simp [wv]) (hb0.trans (hb.mono (by omega))) (by omega)
    exact ⟨_, rfl, this.1, this.2⟩)
  have B1 : Hid (∀ oz o2 W, St W0 (w.heap.size + 3) i j oz none o2 W → Calls Tryz.prog 34 #[.agg #[.int .i64 s1, .pointer q1]] W fun e w' => ∃ b, e = .returned (.pointer (some ⟨b, 0, none⟩)) ∧ St W0 (w.heap.size + 3) i j oz (some b) o2 w') := Lib.hid (fun oz o2 W s => s.big1 h1 hb0 (by omega))
  have B2 : Hid (∀ oz o1 W, St W0 (w.heap.size + 3) i j oz o1 none W → Calls Tryz.prog 34 #[.agg #[.int .i64 s2, .pointer q2]] W fun e w' => ∃ b, e = .returned (.pointer (some ⟨b, 0, none⟩)) ∧ St W0 (w.heap.size + 3) i j oz o1 (some b) w') := Lib.hid (fun oz o1 W s => s.big2 h2 hb0 (by omega))
  have OPC : Hid (∀ z b1 b2 W, St W0 (w.heap.size + 3) i j (some z) (some b1) (some b2) W → Calls Tryz.prog 36 #[.pointer (some ⟨z, 0, none⟩), .pointer (some ⟨b1, 0, none⟩), .pointer (some ⟨b2, 0, none⟩)] W fun e w' => e = .returned (.pointer (some ⟨z, 0, none⟩)) ∧ Bg w' w'.heap.size (some ⟨z, 0, none⟩) (i + j) ∧ Below (w.heap.size + 3) W0 w') := Lib.hid (fun z b1 b2 W s => s.op (fun z p q w hz hp hq hn1 hn2 => bigAdd_any z p q i j w hz hp hq hn1 hn2 hi hj))
  have MB : Hid (∀ p W, Bg W W.heap.size p (i + j) → Calls Tryz.prog 28 #[.pointer p] W (InPost (i + j) W)) := Lib.hid (fun p W h => makeBigInt_any p _ W h hr)
  clear h1 h2 hsz hb0 hX hY hZ hi hj hr
  subst hW0
  have core : ((q1 = none ∧ q2 = none) ∧ (s1 = i ∧ -2147483648 ≤ i ∧ i ≤ 2147483647) ∧ (s2 = j ∧ -2147483648 ≤ j ∧ j ≤ 2147483647)) ∨ (∃ b, q1 = some ⟨b, 0, none⟩) ∨ (q1 = none ∧ ∃ b, q2 = some ⟨b, 0, none⟩) := by
    rcases c1 with ⟨rfl, e1, e2, e3⟩ | h
    · rcases c2 with ⟨rfl, f1, f2, f3⟩ | h2
      · exact .inl ⟨⟨rfl, rfl⟩, ⟨e1, e2, e3⟩, f1, f2, f3⟩
      · exact .inr (.inr ⟨rfl, h2⟩)
    · exact .inr (.inl h)
  clear c1 c2
  rcases core with ⟨⟨rfl, rfl⟩, ⟨rfl, i1, i2⟩, rfl, j1, j2⟩ | core
  · clear B1 B2 OPC MB START
    have MI := Lib.hid (fun W => makeInt64_any (s1 + s2) W (by omega) (by omega))
    have hs1 : -4294967296 ≤ s1 + s2 := by omega
    have hs2 : s1 + s2 ≤ 4294967296 := by omega
    go_enter Tryz.func20, Tryz.ntmps20
    go_wp2_with fail
    refine (get_any _ _ _).mono ?_
    rintro e w1 ⟨rfl, hb1⟩
    have HB1 := Lib.hid (STEP0.out _ hb1)
    obtain ⟨⟨p0, p1, p2, p3⟩, _⟩ := KEEP.out _ HB1.out
    clear hb1
    go_wp2_with fail
    refine (get_any _ _ _).mono ?_
    rintro e w2 ⟨rfl, hb2⟩
    have HB0 := Lib.hid (STEP.out _ _ HB1.out hb2)
    clear hb2 HB1
    go_wp2_with fail
    refine (MI.out _).mono ?_
    rintro e w6 ⟨v, rfl, hin, hb6⟩
    obtain ⟨s6, q6, rfl⟩ := hin.form
    have F := Lib.hid (FIN.out _ _ s6 q6 HB0.out hb6 hin)
    obtain ⟨_, r0, r1, r2, r3⟩ := KEEP.out _ (STEP.out _ _ HB0.out hb6)
    clear hin hb6
    go_wp2_with fail
    refine bodyPost_ret (v := .agg #[.int .i64 s6, .pointer q6]) (by simp [results, Tryz.results20, go_sem, r0, r1]) rfl ?_
    exact F.out
  · have core2 : (q1 = none → ∃ b, q2 = some ⟨b, 0, none⟩) := by
      intro h
      rcases core with ⟨b, hb⟩ | ⟨_, h2⟩
      · rw [h] at hb; cases hb
      · exact h2
    rcases core with ⟨b1, rfl⟩ | ⟨rfl, b2, rfl⟩
    · clear core2
      go_enter Tryz.func20, Tryz.ntmps20
      go_wp2_with fail
      refine (get_any _ _ _).mono ?_
      rintro e w1 ⟨rfl, hb1⟩
      have HB1 := Lib.hid (STEP0.out _ hb1)
      obtain ⟨⟨p0, p1, p2, p3⟩, _⟩ := KEEP.out _ HB1.out
      clear hb1
      go_wp2_with fail
      refine (get_any _ _ _).mono ?_
      rintro e w2 ⟨rfl, hb2⟩
      have HB0 := Lib.hid (STEP.out _ _ HB1.out hb2)
      have HS := Lib.hid (START.out _ HB0.out)
      obtain ⟨⟨p0, p1, p2, p3⟩, _⟩ := KEEP.out _ HB0.out
      clear hb2 HB1
      go_wp2_with fail
      go_region_held3 (fun w' => w'.cell? ⟨w.heap.size, 0, none⟩ = some (.int .i64 s1) ∧ w'.cell? ⟨w.heap.size, 1, none⟩ = some (.pointer (some ⟨b1, 0, none⟩)) ∧ w'.cell? ⟨w.heap.size + 1, 0, none⟩ = some (.int .i64 s2) ∧ w'.cell? ⟨w.heap.size + 1, 1, none⟩ = some (.pointer q2)) (first | (refine ⟨?_, ?_, ?_, ?_⟩ <;> assumption) | exact (KEEP.out _ HS.out.alloc.below).1 | exact (KEEP.out _ HS.out.alloc.drew.below).1 | exact (KEEP.out _ HS.out.drew.alloc.below).1 | (refine ⟨?_, ?_, ?_, ?_⟩ <;> go_simp)) (first
        | (go_at_call 34; (with_reducible refine (B1.out _ _ _ (by first | exact HS.out | exact HS.out.drew | exact HS.out.alloc | exact HS.out.alloc.drew | exact HS.out.drew.alloc)).mono ?_); rintro e w3 ⟨d1, rfl, hs⟩; have HS := Lib.hid hs; obtain ⟨⟨p0, p1, p2, p3⟩, _⟩ := KEEP.out _ hs.below; clear hs)
        | (go_at_call 34; (with_reducible refine (B2.out _ _ _ (by first | exact HS.out | exact HS.out.drew | exact HS.out.alloc | exact HS.out.alloc.drew | exact HS.out.drew.alloc)).mono ?_); rintro e w4 ⟨d2, rfl, hs⟩; have HS := Lib.hid hs; obtain ⟨⟨p0, p1, p2, p3⟩, _⟩ := KEEP.out _ hs.below; clear hs)
        | (go_at_call 36; refine (OPC.out _ _ _ _ (by first | exact HS.out | exact HS.out.alloc)).mono ?_; rintro e w5 ⟨rfl, hbg, hbl⟩; have HG := Lib.hid hbg; have HBL := Lib.hid hbl; obtain ⟨⟨p0, p1, p2, p3⟩, _⟩ := KEEP.out _ hbl; clear hbg hbl)
        | (go_at_call 28; refine (MB.out _ _ HG.out).mono ?_; rintro e w6 ⟨v, rfl, hin, hb6⟩; obtain ⟨s6, q6, rfl⟩ := hin.form; have F := Lib.hid (FIN.out _ _ s6 q6 HBL.out hb6 hin); obtain ⟨⟨p0, p1, p2, p3⟩, r0, r1, r2, r3⟩ := KEEP.out _ (STEP.out _ _ HBL.out hb6); clear hin hb6))
      all_goals
        go_wp2_with fail
        refine bodyPost_ret (v := .agg #[.int .i64 s6, .pointer q6]) (by simp [results, Tryz.results20, go_sem, r0, r1]) rfl ?_
        exact F.out
    · clear core2
      go_enter Tryz.func20, Tryz.ntmps20
      go_wp2_with fail
      refine (get_any _ _ _).mono ?_
      rintro e w1 ⟨rfl, hb1⟩
      have HB1 := Lib.hid (STEP0.out _ hb1)
      obtain ⟨⟨p0, p1, p2, p3⟩, _⟩ := KEEP.out _ HB1.out
      clear hb1
      go_wp2_with fail
      refine (get_any _ _ _).mono ?_
      rintro e w2 ⟨rfl, hb2⟩
      have HB0 := Lib.hid (STEP.out _ _ HB1.out hb2)
      have HS := Lib.hid (START.out _ HB0.out)
      obtain ⟨⟨p0, p1, p2, p3⟩, _⟩ := KEEP.out _ HB0.out
      clear hb2 HB1
      go_wp2_with fail
      go_region_held3 (fun w' => w'.cell? ⟨w.heap.size, 0, none⟩ = some (.int .i64 s1) ∧ w'.cell? ⟨w.heap.size, 1, none⟩ = some (.pointer none) ∧ w'.cell? ⟨w.heap.size + 1, 0, none⟩ = some (.int .i64 s2) ∧ w'.cell? ⟨w.heap.size + 1, 1, none⟩ = some (.pointer (some ⟨b2, 0, none⟩))) (first | (refine ⟨?_, ?_, ?_, ?_⟩ <;> assumption) | exact (KEEP.out _ HS.out.alloc.below).1 | exact (KEEP.out _ HS.out.alloc.drew.below).1 | exact (KEEP.out _ HS.out.drew.alloc.below).1 | (refine ⟨?_, ?_, ?_, ?_⟩ <;> go_simp)) (first
        | (go_at_call 34; (with_reducible refine (B1.out _ _ _ (by first | exact HS.out | exact HS.out.drew | exact HS.out.alloc | exact HS.out.alloc.drew | exact HS.out.drew.alloc)).mono ?_); rintro e w3 ⟨d1, rfl, hs⟩; have HS := Lib.hid hs; obtain ⟨⟨p0, p1, p2, p3⟩, _⟩ := KEEP.out _ hs.below; clear hs)
        | (go_at_call 34; (with_reducible refine (B2.out _ _ _ (by first | exact HS.out | exact HS.out.drew | exact HS.out.alloc | exact HS.out.alloc.drew | exact HS.out.drew.alloc)).mono ?_); rintro e w4 ⟨d2, rfl, hs⟩; have HS := Lib.hid hs; obtain ⟨⟨p0, p1, p2, p3⟩, _⟩ := KEEP.out _ hs.below; clear hs)
        | (go_at_call 36; refine (OPC.out _ _ _ _ (by first | exact HS.out | exact HS.out.alloc)).mono ?_; rintro e w5 ⟨rfl, hbg, hbl⟩; have HG := Lib.hid hbg; have HBL := Lib.hid hbl; obtain ⟨⟨p0, p1, p2, p3⟩, _⟩ := KEEP.out _ hbl; clear hbg hbl)
        | (go_at_call 28; refine (MB.out _ _ HG.out).mono ?_; rintro e w6 ⟨v, rfl, hin, hb6⟩; obtain ⟨s6, q6, rfl⟩ := hin.form; have F := Lib.hid (FIN.out _ _ s6 q6 HBL.out hb6 hin); obtain ⟨⟨p0, p1, p2, p3⟩, r0, r1, r2, r3⟩ := KEEP.out _ (STEP.out _ _ HBL.out hb6); clear hin hb6))
      all_goals
        go_wp2_with fail
        refine bodyPost_ret (v := .agg #[.int .i64 s6, .pointer q6]) (by simp [results, Tryz.results20, go_sem, r0, r1]) rfl ?_
        exact F.out
end Go.Proofs.YtpcnmgldmnncoaaGreatDoor
