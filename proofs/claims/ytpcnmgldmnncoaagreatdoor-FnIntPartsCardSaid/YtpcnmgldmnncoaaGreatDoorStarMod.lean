/- (starlark.Int).Mod: what is left of the floored division. Printed by genstarmod.py out of XStarDiv. -/
import Derived.Test.YtpcnmgldmnncoaaGreatDoorStarDiv
namespace Go.Proofs.YtpcnmgldmnncoaaGreatDoor
open Go.RowKit Dig
set_option linter.unusedVariables false
set_option linter.unusedSimpArgs false
set_option maxRecDepth 100000

theorem smallInt_made (n : Int) (w : World) (h3 : -2147483648 ≤ n) (h4 : n ≤ 2147483647) : Calls Tryz.prog 37 #[.int .i64 n] w (InPost n w) := by
  go_enter Tryz.func37, Tryz.ntmps37
  go_wp2
  go_returns
  exact ⟨_, rfl, ⟨n, none, rfl, .inl ⟨rfl, rfl, h3, h4⟩⟩, by go_grown⟩
/-- what is left of the floored division -/
def mdF (i j : Int) : Int := if dvC i j = true then i.tmod j + j else i.tmod j
theorem dvC_iff (i j : Int) : dvC i j = true ↔ (¬ (i < 0 ↔ j < 0)) ∧ i.tmod j ≠ 0 := by
  unfold dvC
  by_cases h1 : i < 0 <;> by_cases h2 : j < 0 <;> by_cases h3 : i.tmod j = 0 <;> simp [h1, h2, h3] <;> omega
theorem mdF_sign (i j : Int) (hj : j ≠ 0) : (0 < j → 0 ≤ mdF i j ∧ mdF i j < j) ∧ (j < 0 → j < mdF i j ∧ mdF i j ≤ 0) := by
  have hv := tmod_val i j
  have hC := dvC_iff i j
  have hlt : i.natAbs % j.natAbs < j.natAbs := Nat.mod_lt _ (by omega)
  unfold mdF
  generalize i.natAbs % j.natAbs = m at *
  generalize i.tmod j = t at *
  by_cases hc : dvC i j = true
  · rw [if_pos hc]
    have := hC.1 hc
    split at hv <;> omega
  · rw [if_neg hc]
    have : ¬ ((¬ (i < 0 ↔ j < 0)) ∧ t ≠ 0) := fun h => hc (hC.2 h)
    split at hv <;> omega
theorem mdF_lt (i j : Int) (hj : j ≠ 0) : (0 < j → 0 ≤ mdF i j ∧ mdF i j < j) ∧ (j < 0 → j < mdF i j ∧ mdF i j ≤ 0) ∧ (mdF i j).natAbs < j.natAbs := by
  obtain ⟨h1, h2⟩ := mdF_sign i j hj
  refine ⟨h1, h2, ?_⟩
  rcases Int.lt_or_gt_of_ne hj with h | h
  · have := h2 h; omega
  · have := h1 h; omega
/-- the quotient times the divisor, and what is left, are the dividend -/
theorem dvF_mdF (i j : Int) : dvF i j * j + mdF i j = i := by
  have h := Int.mul_tdiv_add_tmod i j
  unfold dvF mdF
  by_cases hc : dvC i j = true
  · rw [if_pos hc, if_pos hc, Int.sub_mul, Int.one_mul, Int.mul_comm]; omega
  · rw [if_neg hc, if_neg hc, Int.mul_comm]; exact h
set_option maxHeartbeats 3200000 in
theorem intMod_any (i j : Int) (v1 v2 : Value) (w : World) (h1 : In w w.heap.size v1 i) (h2 : In w w.heap.size v2 j) (hi : i.natAbs + 1 < lim) (hj0 : j ≠ 0) (hj : j.natAbs < 18446744073709551616 ^ 39) (hgl : 0 < w.heap.size) (hthr : w.cell? ⟨0, 0, none⟩ = some (.int .i64 40)) :
    Calls Tryz.prog 19 #[v1, v2] w (InPost (mdF i j) w) := by
  obtain ⟨s1, q1, rfl⟩ := h1.form
  obtain ⟨s2, q2, rfl⟩ := h2.form
  have c1 := h1.cases2
  have c2 := h2.cases2
  obtain ⟨W0, hW0⟩ : ∃ W0, W0 = ((w.alloc (.cells #[.int .i64 s1, .pointer q1] 44)).alloc (.cells #[.int .i64 s2, .pointer q2] 44)).alloc (.cells #[.int .i64 0, .pointer none] 44) := ⟨_, rfl⟩
  have hsz : W0.heap.size = w.heap.size + 3 := by rw [hW0]; simp
  have hb0 : Below w.heap.size w W0 := by rw [hW0]; exact (((Below.refl _ _).alloc (Nat.le_refl _) _).alloc (by simp) _).alloc (by simp; omega) _
  have hX : Blk W0 w.heap.size 44 [.int .i64 s1, .pointer q1] := by rw [hW0]; exact ((Blk.new w _ [.int .i64 s1, .pointer q1]).alloc _).alloc _
  have hY : Blk W0 (w.heap.size + 1) 44 [.int .i64 s2, .pointer q2] := by
    rw [hW0]
    have := (Blk.new (w.alloc (.cells #[.int .i64 s1, .pointer q1] 44)) 44 [.int .i64 s2, .pointer q2]).alloc (.cells #[.int .i64 0, .pointer none] 44)
    simpa using this
  have hZ : Blk W0 (w.heap.size + 1 + 1) 44 [.int .i64 0, .pointer none] := by
    rw [hW0]
    have := Blk.new ((w.alloc (.cells #[.int .i64 s1, .pointer q1] 44)).alloc (.cells #[.int .i64 s2, .pointer q2] 44)) 44 [.int .i64 0, .pointer none]
    simpa using this
  have hthr0 : W0.cell? ⟨0, 0, none⟩ = some (.int .i64 40) := (hb0.cell (p := ⟨0, 0, none⟩) hgl).trans hthr
  have STEP0 : Hid (∀ w1, Below W0.heap.size W0 w1 → Below (w.heap.size + 3) W0 w1) := Lib.hid (fun w1 h => h.mono (by omega))
  have STEP : Hid (∀ w1 w2, Below (w.heap.size + 3) W0 w1 → Below w1.heap.size w1 w2 → Below (w.heap.size + 3) W0 w2) := Lib.hid (fun w1 w2 h1 h2 => h1.trans (h2.mono (by have := h1.size; omega)))
  have START : Hid (∀ w1, Below (w.heap.size + 3) W0 w1 → St W0 (w.heap.size + 3) i j none none none w1) := Lib.hid (fun w1 h => St.start (by have := h.size; omega) h)
  have KEEP : Hid (∀ W, Below (w.heap.size + 3) W0 W → (W.cell? ⟨w.heap.size, 0, none⟩ = some (.int .i64 s1) ∧ W.cell? ⟨w.heap.size, 1, none⟩ = some (.pointer q1) ∧ W.cell? ⟨w.heap.size + 1, 0, none⟩ = some (.int .i64 s2) ∧ W.cell? ⟨w.heap.size + 1, 1, none⟩ = some (.pointer q2)) ∧
      (W.cell? ⟨w.heap.size + 1 + 1, 0, none⟩ = some (.int .i64 0) ∧ W.cell? ⟨w.heap.size + 1 + 1, 1, none⟩ = some (.pointer none) ∧ W.frozen? ⟨w.heap.size + 1 + 1, 0, none⟩ = false ∧ W.frozen? ⟨w.heap.size + 1 + 1, 1, none⟩ = false)) := Lib.hid (fun W h => by
    have hX' := hX.below h (by omega)
    have hY' := hY.below h (by omega)
    have hZ' := hZ.below h (by omega)
    exact ⟨⟨hX'.cell 0 (by simp), hX'.cell 1 (by simp), hY'.cell 0 (by simp), hY'.cell 1 (by simp)⟩, hZ'.cell 0 (by simp), hZ'.cell 1 (by simp), hZ'.free 0, hZ'.free 1⟩)
  have FIN : Hid (∀ (W W' : World) (s : Int) (q : Option Addr), Below (w.heap.size + 3) W0 W → Below W.heap.size W W' → In W' W'.heap.size (.agg #[.int .i64 s, .pointer q]) (mdF i j) → InPost (mdF i j) w (.returned (.agg #[.int .i64 s, .pointer q])) ((W'.setCell ⟨w.heap.size + 1 + 1, 0, none⟩ (.int .i64 s)).setCell ⟨w.heap.size + 1 + 1, 1, none⟩ (.pointer q))) := Lib.hid (by
    intro W W' s q h h' hin
    have hb : Below (w.heap.size + 3) W0 W' := h.trans (h'.mono (by have := h.size; omega))
    have := hin.store (w := w) (hZ.below hb (by omega)) (by simp [wv]) (hb0.trans (hb.mono (by omega))) (by omega)
    exact ⟨_, rfl, this.1, this.2⟩)
  have B1 : Hid (∀ oz o2 W, St W0 (w.heap.size + 3) i j oz none o2 W → Calls Tryz.prog 34 #[.agg #[.int .i64 s1, .pointer q1]] W fun e w' => ∃ b, e = .returned (.pointer (some ⟨b, 0, none⟩)) ∧ St W0 (w.heap.size + 3) i j oz (some b) o2 w') := Lib.hid (fun oz o2 W s => s.big1 h1 hb0 (by omega))
  have B2 : Hid (∀ oz o1 W, St W0 (w.heap.size + 3) i j oz o1 none W → Calls Tryz.prog 34 #[.agg #[.int .i64 s2, .pointer q2]] W fun e w' => ∃ b, e = .returned (.pointer (some ⟨b, 0, none⟩)) ∧ St W0 (w.heap.size + 3) i j oz o1 (some b) w') := Lib.hid (fun oz o1 W s => s.big2 h2 hb0 (by omega))
  have QR : Hid (∀ d1 d2 W, St W0 (w.heap.size + 3) i j none (some d1) (some d2) W → Calls Tryz.prog 35 #[.pointer (some ⟨W.heap.size, 0, none⟩), .pointer (some ⟨d1, 0, none⟩), .pointer (some ⟨d2, 0, none⟩), .pointer (some ⟨W.heap.size + 1, 0, none⟩)] ((W.alloc (.cells #[.bool false, .slice none 0 0] 55)).alloc (.cells #[.bool false, .slice none 0 0] 55))
      fun e w' => (∃ v, e = .returned v) ∧ DvSt W0 (w.heap.size + 3) (W.heap.size + 2) d1 d2 W.heap.size (W.heap.size + 1) i j w') := Lib.hid (fun d1 d2 W s => s.quoRem (by omega) hj0 hj (by omega) hthr0)
  have hRl : (i.tmod j).natAbs < lim := by rw [tmod_abs]; have := Nat.mod_le i.natAbs j.natAbs; omega
  have hQl : (i.tdiv j).natAbs + 1 < lim := by rw [tdiv_abs]; have := Nat.div_le_self i.natAbs j.natAbs; omega
  have hjl : j.natAbs < lim := Nat.lt_of_lt_of_le hj (pow_le_lim 39 (by omega))
  have SG1 : Hid (∀ g d1 d2 z r W, DvSt W0 (w.heap.size + 3) g d1 d2 z r i j W → Calls Tryz.prog 30 #[.pointer (some ⟨d1, 0, none⟩)] W fun e w' => e = .returned (.int .i64 (sgn i)) ∧ W = w') := Lib.hid (fun g d1 d2 z r W s => Sign_any _ i W s.x (by omega))
  have SG2 : Hid (∀ g d1 d2 z r W, DvSt W0 (w.heap.size + 3) g d1 d2 z r i j W → Calls Tryz.prog 30 #[.pointer (some ⟨d2, 0, none⟩)] W fun e w' => e = .returned (.int .i64 (sgn j)) ∧ W = w') := Lib.hid (fun g d1 d2 z r W s => Sign_any _ j W s.y hjl)
  have SG3 : Hid (∀ g d1 d2 z r W, DvSt W0 (w.heap.size + 3) g d1 d2 z r i j W → Calls Tryz.prog 30 #[.pointer (some ⟨r, 0, none⟩)] W fun e w' => e = .returned (.int .i64 (sgn (i.tmod j))) ∧ W = w') := Lib.hid (fun g d1 d2 z r W s => Sign_any _ _ W s.rr.bg hRl)
  have hml := mdF_lt i j hj0
  have hdl : (mdF i j).natAbs < lim := by omega
  have MB : Hid (∀ p W, Bg W W.heap.size p (mdF i j) → Calls Tryz.prog 28 #[.pointer p] W (InPost (mdF i j) W)) := Lib.hid (fun p W h => makeBigInt_any p _ W h hdl)
  have SB : Hid (dvC i j = true → ∀ g d1 d2 z r W, DvSt W0 (w.heap.size + 3) g d1 d2 z r i j W → Calls Tryz.prog 36 #[.pointer (some ⟨r, 0, none⟩), .pointer (some ⟨r, 0, none⟩), .pointer (some ⟨d2, 0, none⟩)] W (fun e w' => e = .returned (.pointer (some ⟨r, 0, none⟩)) ∧ Bg w' w'.heap.size (some ⟨r, 0, none⟩) (mdF i j) ∧ Below (w.heap.size + 3) W0 w')) := Lib.hid (by
    intro hc g d1 d2 z r W s
    obtain ⟨e1, e2, e3, e4⟩ := s.zr
    have hF : mdF i j = i.tmod j + j := if_pos hc
    unfold dvC at hc
    simp only [Bool.and_eq_true, decide_eq_true_eq] at hc
    obtain ⟨hs1, hR0⟩ := hc
    have hjp : 0 < j.natAbs := by omega
    have hs : decide (i.tmod j < 0) = !decide (j < 0) := by
      rw [tmod_neg_iff, decide_eq_true (show 0 < i.natAbs % j.natAbs by rw [← tmod_abs]; omega), Bool.true_and]
      revert hs1
      generalize decide (i < 0) = t1
      generalize decide (j < 0) = t2
      cases t1 <;> cases t2 <;> simp
    rw [hF]
    refine (addBack_any r z g _ (i.tmod j) j W s.rr s.hx (by omega) (by omega) e4 hR0 hs (by rw [tmod_abs]; exact Nat.mod_lt _ hjp) hj).mono ?_
    rintro e w' ⟨rfl, m1, m2⟩
    exact ⟨rfl, m1, s.b.trans (m2.mono e3)⟩)
  have G1 := sgn_lt0 i
  have G2 := sgn_lt0 j
  have G3 := sgn_ne0 (i.tmod j)
  clear h1 h2 hsz hb0 hX hY hZ hi hj hRl hQl hjl hml hthr hthr0 hgl hdl
  subst hW0
  have core : ((q1 = none ∧ q2 = none) ∧ (s1 = i ∧ -2147483648 ≤ i ∧ i ≤ 2147483647) ∧ (s2 = j ∧ -2147483648 ≤ j ∧ j ≤ 2147483647)) ∨ (∃ b, q1 = some ⟨b, 0, none⟩) ∨ (q1 = none ∧ ∃ b, q2 = some ⟨b, 0, none⟩) := by
    rcases c1 with ⟨rfl, e1, e2, e3⟩ | h
    · rcases c2 with ⟨rfl, f1, f2, f3⟩ | h2
      · exact .inl ⟨⟨rfl, rfl⟩, ⟨e1, e2, e3⟩, f1, f2, f3⟩
      · exact .inr (.inr ⟨rfl, h2⟩)
    · exact .inr (.inl h)
  clear c1 c2
  rcases core with ⟨⟨rfl, rfl⟩, ⟨rfl, i1, i2⟩, rfl, j1, j2⟩ | core
  · have hQ1 : (s1.tdiv s2).natAbs ≤ 2147483648 := by rw [tdiv_abs]; have := Nat.div_le_self s1.natAbs s2.natAbs; omega
    have hR1 : (s1.tmod s2).natAbs ≤ 2147483648 := by rw [tmod_abs]; have := Nat.mod_le s1.natAbs s2.natAbs; omega
    have hml := mdF_lt s1 s2 hj0
    have hdF : -2147483648 ≤ mdF s1 s2 ∧ mdF s1 s2 ≤ 2147483647 := by omega
    have MI : Hid (∀ v, v = mdF s1 s2 → ∀ W, Calls Tryz.prog 37 #[.int .i64 v] W (InPost (mdF s1 s2) W)) := Lib.hid (by rintro v rfl W; exact smallInt_made (mdF s1 s2) W (by omega) (by omega))
    clear B1 B2 QR SG1 SG2 SG3 SB MB START G1 G2 G3 hQ1
    go_enter Tryz.func19, Tryz.ntmps19
    go_wp2_with fail
    refine (get_any _ _ _).mono ?_
    rintro e w1 ⟨rfl, hb1⟩
    have HB1 := Lib.hid (STEP0.out _ hb1)
    obtain ⟨⟨p0, p1, p2, p3⟩, _⟩ := KEEP.out _ HB1.out
    clear hb1
    go_wp2_with fail
    refine (get_any _ _ _).mono ?_
    rintro e w2 ⟨rfl, hb2⟩
    have HB0 := Lib.hid (STEP.out _ _ HB1.out hb2)
    clear hb2 HB1
    clear hdF hml
    have hv0 : mdF s1 s2 = if ((decide (s1 < 0) != decide (s2 < 0)) && (s1.tmod s2 != 0)) = true then s1.tmod s2 + s2 else s1.tmod s2 := by
      have e : (s1.tmod s2 != 0) = decide (s1.tmod s2 ≠ 0) := by by_cases h : s1.tmod s2 = 0 <;> simp [h]
      rw [e]; rfl
    have hem : decide (s1 < 0) = false → (s1 % s2 != 0) = (s1.tmod s2 != 0) := fun h => by
      rw [Int.tmod_eq_emod_of_nonneg (by simpa using h)]
    have HEM := Lib.hid hem
    have HV0 := Lib.hid hv0
    clear hem hv0
    cases hda : decide (s1 < 0) <;> cases hdb : decide (s2 < 0) <;> cases hdc : (s1.tmod s2 != 0)
    all_goals
      have hv := HV0.out
      rw [hda, hdb, hdc] at hv
      simp only [bne_self_eq_false, Bool.false_and, Bool.and_false, Bool.false_eq_true, if_false, Bool.and_true, Bool.true_bne, Bool.false_bne, Bool.not_true, Bool.not_false, if_true] at hv
      have HV := Lib.hid hv
      clear hv
      try (have hdm := HEM.out hda; rw [hdc] at hdm)
      try (have hda2 := of_decide_eq_true hda)
      try (have hdb2 := of_decide_eq_true hdb)
      go_wp2_with fail
      refine (MI.out _ HV.out.symm _).mono ?_
      rintro e w6 ⟨v, rfl, hin, hb6⟩
      obtain ⟨s6, q6, rfl⟩ := hin.form
      have F := Lib.hid (FIN.out _ _ s6 q6 HB0.out hb6 hin)
      obtain ⟨_, r0, r1, r2, r3⟩ := KEEP.out _ (STEP.out _ _ HB0.out hb6)
      clear hin hb6
      go_wp2_with fail
      refine bodyPost_ret (v := .agg #[.int .i64 s6, .pointer q6]) (by simp [results, Tryz.results19, go_sem, r0, r1]) rfl ?_
      exact F.out
  · have CORE := Lib.hid core
    clear core
    go_enter Tryz.func19, Tryz.ntmps19
    go_wp2_with fail
    refine (get_any _ _ _).mono ?_
    rintro e w1 ⟨rfl, hb1⟩
    have HB1 := Lib.hid (STEP0.out _ hb1)
    obtain ⟨⟨p0, p1, p2, p3⟩, _⟩ := KEEP.out _ HB1.out
    clear hb1
    go_wp2_with fail
    refine (get_any _ _ _).mono ?_
    rintro e w2 ⟨rfl, hb2⟩
    have HB0 := Lib.hid (STEP.out _ _ HB1.out hb2)
    have HS := Lib.hid (START.out _ HB0.out)
    clear hb2 HB1 p0 p1 p2 p3
    go_upto_region 3 with fail
    go_cut [29] from 24 to 29 (fun c wx => c = .bool true ∧ wx = w2)
    case first =>
      rcases CORE.out with ⟨b, rfl⟩ | ⟨rfl, b, rfl⟩
      · go_wp2_with fail
        go_meet
        exact ⟨rfl, rfl⟩
      · go_wp2_with fail
        go_meet
        exact ⟨rfl, rfl⟩
    obtain ⟨rfl, rfl⟩ := hcut
    obtain ⟨⟨p0, p1, p2, p3⟩, _⟩ := KEEP.out _ HB0.out
    go_wp2_with fail
    go_region_held3 (fun w' => w'.cell? ⟨w.heap.size, 0, none⟩ = some (.int .i64 s1) ∧ w'.cell? ⟨w.heap.size, 1, none⟩ = some (.pointer q1) ∧ w'.cell? ⟨w.heap.size + 1, 0, none⟩ = some (.int .i64 s2) ∧ w'.cell? ⟨w.heap.size + 1, 1, none⟩ = some (.pointer q2)) (first | (refine ⟨?_, ?_, ?_, ?_⟩ <;> assumption) | exact (KEEP.out _ HS.out.below).1 | exact (KEEP.out _ HS.out.drew.below).1 | (refine ⟨?_, ?_, ?_, ?_⟩ <;> go_simp)) (first
      | (go_at_call 34; (with_reducible refine (B1.out _ _ _ (by first | exact HS.out | exact HS.out.drew)).mono ?_); rintro e w3 ⟨d1, rfl, hs⟩; have HS := Lib.hid hs; obtain ⟨⟨p0, p1, p2, p3⟩, _⟩ := KEEP.out _ hs.below; clear hs)
      | (go_at_call 34; (with_reducible refine (B2.out _ _ _ (by first | exact HS.out | exact HS.out.drew)).mono ?_); rintro e w4 ⟨d2, rfl, hs⟩; have HS := Lib.hid hs; obtain ⟨⟨p0, p1, p2, p3⟩, _⟩ := KEEP.out _ hs.below; clear hs))
    have QR1 := Lib.hid (QR.out _ _ _ HS.out)
    clear B1 B2 QR p0 p1 p2 p3 HB0 CORE STEP0 START
    go_wp2_with fail
    with_reducible refine QR1.out.mono ?_
    rintro e w5 ⟨⟨vq, rfl⟩, hst⟩
    have HD := Lib.hid hst
    clear hst QR1 HS
    obtain ⟨C, hC⟩ : ∃ C, C = dvC i j := ⟨_, rfl⟩
    have HC := Lib.hid hC
    have CC : Hid (C = ((decide (i < 0) != decide (j < 0)) && decide (i.tmod j ≠ 0))) := Lib.hid (by rw [hC]; rfl)
    clear hC
    have SGX := Lib.hid (SG1.out _ _ _ _ _ _ HD.out)
    have SGY := Lib.hid (SG2.out _ _ _ _ _ _ HD.out)
    have SGZ := Lib.hid (SG3.out _ _ _ _ _ _ HD.out)
    clear SG1 SG2 SG3
    go_upto_region 7 with fail
    go_cut [47] from 37 to 47 (fun c wx => c = .bool C ∧ wx = w5)
    case first =>
      clear FIN MB SB KEEP STEP HD
      generalize decide (i.tmod j ≠ 0) = t3 at *
      generalize decide (i < 0) = t1 at *
      generalize decide (j < 0) = t2 at *
      generalize sgn i = x1 at *
      generalize sgn j = x2 at *
      generalize sgn (i.tmod j) = x3 at *
      cases t1 <;> cases t2
      all_goals
        go_wp2_with fail
        with_reducible refine SGX.out.mono ?_
        rintro e w' ⟨rfl, rfl⟩
        go_wp2_with fail
        with_reducible refine SGY.out.mono ?_
        rintro e w' ⟨rfl, rfl⟩
        go_wp2_with fail
        first
          | (go_meet; exact ⟨by rw [CC.out]; rfl, rfl⟩)
          | (with_reducible refine SGZ.out.mono ?_
             rintro e w' ⟨rfl, rfl⟩
             go_wp2_with fail
             go_meet
             exact ⟨by rw [CC.out]; rfl, rfl⟩)
    obtain ⟨rfl, rfl⟩ := hcut
    cases C
    · have hg := HD.out.rr.bg
      have e : mdF i j = i.tmod j := if_neg (by rw [← HC.out]; simp)
      rw [← e] at hg
      have HG := Lib.hid hg
      clear hg e
      have HBL := Lib.hid HD.out.b
      clear SB HD SGX SGY SGZ CC HC
      go_wp2_with fail
      refine (MB.out _ _ HG.out).mono ?_
      rintro e w8 ⟨v, rfl, hin, hb8⟩
      obtain ⟨s6, q6, rfl⟩ := hin.form
      have F := Lib.hid (FIN.out _ _ s6 q6 HBL.out hb8 hin)
      obtain ⟨_, r0, r1, r2, r3⟩ := KEEP.out _ (STEP.out _ _ HBL.out hb8)
      clear hin hb8 MB FIN KEEP STEP
      go_wp2_with fail
      refine bodyPost_ret (v := .agg #[.int .i64 s6, .pointer q6]) (by simp [results, Tryz.results19, go_sem, r0, r1]) rfl ?_
      exact F.out
    · have SB1 := SB.out HC.out.symm
      have SB3 := Lib.hid (SB1 _ _ _ _ _ _ HD.out)
      clear SB SB1
      go_wp2_with fail
      with_reducible refine SB3.out.mono ?_
      rintro e w7 ⟨rfl, hg, hbl⟩
      have HG := Lib.hid hg
      have HBL := Lib.hid hbl
      clear hg hbl SB3 HD SGX SGY SGZ CC HC
      go_wp2_with fail
      refine (MB.out _ _ HG.out).mono ?_
      rintro e w8 ⟨v, rfl, hin, hb8⟩
      obtain ⟨s6, q6, rfl⟩ := hin.form
      have F := Lib.hid (FIN.out _ _ s6 q6 HBL.out hb8 hin)
      obtain ⟨_, r0, r1, r2, r3⟩ := KEEP.out _ (STEP.out _ _ HBL.out hb8)
      clear hin hb8 MB FIN KEEP STEP
      go_wp2_with fail
      refine bodyPost_ret (v := .agg #[.int .i64 s6, .pointer q6]) (by simp [results, Tryz.results19, go_sem, r0, r1]) rfl ?_
      exact F.out
end Go.Proofs.YtpcnmgldmnncoaaGreatDoor
