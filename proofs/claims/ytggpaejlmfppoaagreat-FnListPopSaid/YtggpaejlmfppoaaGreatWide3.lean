/- spec.Cmp, Int64 at numbers of any size that memory holds (printed by genx.py). -/
import Derived.Test.YtggpaejlmfppoaaGreatWide
import Derived.Test.YtggpaejlmfppoaaGreatI64
namespace Go.Proofs.YtggpaejlmfppoaaGreat
open Go.RowKit Dig
set_option linter.unusedVariables false
set_option linter.unusedSimpArgs false
set_option maxRecDepth 100000

theorem specSign_anyX (i : Int) (a : Option Addr) (k c : Nat) (w : World) (hk : k ≤ 140737488355328) (h : k = 0 ↔ i = 0) :
    Calls Tryz.prog 51 #[.agg #[.bool (decide (i < 0)), .slice a k c]] w fun e w' => e = .returned (.int .i64 (sgn i)) ∧ Below w.heap.size w w' := by
  by_cases h0 : k = 0
  · obtain rfl := h.1 h0
    subst h0
    clear h
    go_enter Tryz.func51, Tryz.ntmps51
    go_wp2
    go_ret
    exact ⟨rfl, by go_grown⟩
  · have h1 : ¬ i = 0 := fun e => h0 (h.2 e)
    have hne : ((k : Int) == 0) = false := by simp; omega
    clear h
    by_cases h2 : i < 0
    · have e : sgn i = -1 := by simp [sgn, h2]
      rw [e, decide_eq_true h2]
      clear e h1 h2
      go_enter Tryz.func51, Tryz.ntmps51
      go_wp2
      go_ret
      exact ⟨rfl, by go_grown⟩
    · have e : sgn i = 1 := by simp [sgn, h2, h1]
      rw [e, decide_eq_false h2]
      clear e h1 h2
      go_enter Tryz.func51, Tryz.ntmps51
      go_wp2
      go_ret
      exact ⟨rfl, by go_grown⟩

set_option maxHeartbeats 3200000 in
theorem specCmp_anyX (i j : Int) (x y : Value) (w : World) (hx : Sp w w.heap.size x i) (hy : Sp w w.heap.size y j) (hi : FitX i.natAbs) (hj : FitX j.natAbs) :
    Calls Tryz.prog 29 #[x, y] w (IntPost (cmpI i j) w) := by
  obtain ⟨m1, rfl, b1⟩ := hx
  obtain ⟨m2, rfl, b2⟩ := hy
  obtain ⟨xs, r1, s1⟩ := id b1
  obtain ⟨ys, r2, s2⟩ := id b2
  have l1 := r1.length_leX hi
  have l2 := r2.length_leX hj
  have z1 := r1.nil_iff
  have z2 := r2.nil_iff
  obtain ⟨a1, c1, rfl, hc1, _⟩ := id s1
  obtain ⟨a2, c2, rfl, hc2, _⟩ := id s2
  simp only [List.length_map] at *
  have zz1 : xs.length = 0 ↔ i = 0 := by rw [List.length_eq_zero_iff, z1]; omega
  have zz2 : ys.length = 0 ↔ j = 0 := by rw [List.length_eq_zero_iff, z2]; omega
  have SX := Lib.hid (fun W => specSign_anyX i a1 xs.length c1 W l1 zz1)
  have SY := Lib.hid (fun W => specSign_anyX j a2 ys.length c2 W l2 zz2)
  generalize hk1 : xs.length = k1 at *
  generalize hk2 : ys.length = k2 at *
  generalize hn1 : decide (i < 0) = n1 at *
  generalize hn2 : decide (j < 0) = n2 at *
  obtain ⟨W0, hW0⟩ : ∃ W0, W0 = (w.alloc (.cells #[.bool n1, .slice a1 k1 c1] 64)).alloc (.cells #[.bool n2, .slice a2 k2 c2] 64) := ⟨_, rfl⟩
  have hsz : W0.heap.size = w.heap.size + 2 := by rw [hW0]; simp
  have hb0 : Below w.heap.size w W0 := by rw [hW0]; exact ((Below.refl _ _).alloc (Nat.le_refl _) _).alloc (by simp) _
  have hX : Blk W0 w.heap.size 64 [.bool n1, .slice a1 k1 c1] := by rw [hW0]; exact (Blk.new w _ [.bool n1, .slice a1 k1 c1]).alloc _
  have hY : Blk W0 (w.heap.size + 1) 64 [.bool n2, .slice a2 k2 c2] := by
    rw [hW0]
    have := Blk.new (w.alloc (.cells #[.bool n1, .slice a1 k1 c1] 64)) 64 [.bool n2, .slice a2 k2 c2]
    simpa using this
  have BASE : Hid (Below (w.heap.size + 2) W0 W0.drew) := (Below.refl _ _).drew
  have STEP : Hid (∀ w1 w2, Below (w.heap.size + 2) W0 w1 → Below w1.heap.size w1 w2 → Below (w.heap.size + 2) W0 w2) := Lib.hid (fun w1 w2 h1 h2 => h1.trans (h2.mono (by have := h1.size; omega)))
  have KEEP : Hid (∀ W, Below (w.heap.size + 2) W0 W → W.cell? ⟨w.heap.size, 0, none⟩ = some (.bool n1) ∧ W.cell? ⟨w.heap.size, 1, none⟩ = some (.slice a1 k1 c1) ∧ W.cell? ⟨w.heap.size + 1, 0, none⟩ = some (.bool n2) ∧ W.cell? ⟨w.heap.size + 1, 1, none⟩ = some (.slice a2 k2 c2)) := Lib.hid (fun W h => by
    have hX' := hX.below h (by omega)
    have hY' := hY.below h (by omega)
    exact ⟨hX'.cell 0 (by simp), hX'.cell 1 (by simp), hY'.cell 0 (by simp), hY'.cell 1 (by simp)⟩)
  have FIN : Hid (∀ W, Below (w.heap.size + 2) W0 W → Below w.heap.size w W ∧ By W W.heap.size (.slice a1 k1 c1) i.natAbs ∧ By W W.heap.size (.slice a2 k2 c2) j.natAbs) := Lib.hid (fun W h => by
    have hb := hb0.trans (h.mono (by omega))
    exact ⟨hb, (b1.below hb).more hb.size, (b2.below hb).more hb.size⟩)
  have G1 := Lib.hid (@cmpI_sgn i j)
  have G2 := Lib.hid (@cmpI_sgn' i j)
  have G3 := Lib.hid (@cmpI_neg i j)
  have G4 := Lib.hid (@cmpI_pos i j)
  have HI := Lib.hid hi
  have HJ := Lib.hid hj
  have N1 := Lib.hid hn1
  have hsr1 : -1 ≤ sgn i ∧ sgn i ≤ 1 := by unfold sgn; split <;> (try split) <;> omega
  have hsr2 : -1 ≤ sgn j ∧ sgn j ≤ 1 := by unfold sgn; split <;> (try split) <;> omega
  generalize sgn i = s at *
  generalize sgn j = t at *
  obtain ⟨hs1, hs2⟩ := hsr1
  obtain ⟨ht1, ht2⟩ := hsr2
  clear b1 b2 r1 r2 s1 s2 z1 z2 zz1 zz2 hk1 hk2 hn1 hn2 hsz hb0 hX hY hi hj
  subst hW0
  have ph (W : World) : True := trivial
  rcases Int.lt_trichotomy s t with h | h | h
  · rw [G1.out h]
    clear G1 G2 G3 G4
    have hne : (s != t) = true := by simp; omega
    have hlt : decide (s < t) = true := by simp; omega
    go_enter Tryz.func29, Tryz.ntmps29
    go_upto_region 1 with fail
    go_cut [9] from 5 to 9 (fun sv wx => sv = .bool true ∧ Hid (Below (w.heap.size + 2) ((w.alloc (.cells #[.bool n1, .slice a1 k1 c1] 64)).alloc (.cells #[.bool n2, .slice a2 k2 c2] 64)) wx))
    case first =>
      go_region_with (go_at_call 51; (first | (with_reducible refine (SX.out _).mono ?_) | (with_reducible refine (SY.out _).mono ?_)); rintro e w1 ⟨rfl, hb1⟩; (first | (with_reducible have HB := Lib.hid (STEP.out _ _ HB.out hb1)) | (with_reducible have HB := Lib.hid (STEP.out _ _ (HB.out.drew) hb1)) | (with_reducible have HB := Lib.hid (STEP.out _ _ BASE.out hb1))); obtain ⟨p0, p1, p2, p3⟩ := KEEP.out _ HB.out; clear hb1)
      all_goals (go_wp2_with fail; go_meet; exact ⟨rfl, HB⟩)
    case rest =>
      obtain ⟨rfl, HB⟩ := hcut
      obtain ⟨p0, p1, p2, p3⟩ := KEEP.out _ HB.out
      go_upto_region 2 with fail
      go_cut [14] from 10 to 14 (fun sv wx => sv = .bool true ∧ Hid (Below (w.heap.size + 2) ((w.alloc (.cells #[.bool n1, .slice a1 k1 c1] 64)).alloc (.cells #[.bool n2, .slice a2 k2 c2] 64)) wx))
      case first =>
        go_region_with (go_at_call 51; (first | (with_reducible refine (SX.out _).mono ?_) | (with_reducible refine (SY.out _).mono ?_)); rintro e w1 ⟨rfl, hb1⟩; (first | (with_reducible have HB := Lib.hid (STEP.out _ _ HB.out hb1)) | (with_reducible have HB := Lib.hid (STEP.out _ _ (HB.out.drew) hb1)) | (with_reducible have HB := Lib.hid (STEP.out _ _ BASE.out hb1))); obtain ⟨p0, p1, p2, p3⟩ := KEEP.out _ HB.out; clear hb1)
        all_goals (go_wp2_with fail; go_meet; exact ⟨rfl, HB⟩)
      case rest =>
        obtain ⟨rfl, HB⟩ := hcut
        obtain ⟨p0, p1, p2, p3⟩ := KEEP.out _ HB.out
        go_wp2_with fail
        go_ret
        exact ⟨rfl, (FIN.out _ HB.out).1⟩
  · by_cases hi : i < 0
    · have _ := ph
      rw [G3.out h hi]
      subst h
      obtain rfl : n1 = true := by rw [← N1.out]; simp; omega
      clear G1 G2 G3 G4 hi
      go_enter Tryz.func29, Tryz.ntmps29
      go_upto_region 1 with fail
      go_cut [9] from 5 to 9 (fun sv wx => sv = .bool false ∧ Hid (Below (w.heap.size + 2) ((w.alloc (.cells #[.bool true, .slice a1 k1 c1] 64)).alloc (.cells #[.bool n2, .slice a2 k2 c2] 64)) wx))
      case first =>
        go_region_with (go_at_call 51; (first | (with_reducible refine (SX.out _).mono ?_) | (with_reducible refine (SY.out _).mono ?_)); rintro e w1 ⟨rfl, hb1⟩; (first | (with_reducible have HB := Lib.hid (STEP.out _ _ HB.out hb1)) | (with_reducible have HB := Lib.hid (STEP.out _ _ (HB.out.drew) hb1)) | (with_reducible have HB := Lib.hid (STEP.out _ _ BASE.out hb1))); obtain ⟨p0, p1, p2, p3⟩ := KEEP.out _ HB.out; clear hb1)
        all_goals (go_wp2_with fail; go_meet; exact ⟨rfl, HB⟩)
      case rest =>
        obtain ⟨rfl, HB⟩ := hcut
        obtain ⟨p0, p1, p2, p3⟩ := KEEP.out _ HB.out
        obtain ⟨hb, hy1, hy2⟩ := FIN.out _ HB.out
        have C := Lib.hid (order_anyX _ _ _ _ _ hy2 hy1 HJ.out HI.out)
        have HBB := Lib.hid hb
        clear hb hy1 hy2
        go_wp2_with fail
        refine C.out.mono ?_
        rintro e w2 ⟨rfl, hq⟩
        have HQ := Lib.hid hq
        clear hq
        go_wp2_with fail
        go_ret
        exact ⟨rfl, HBB.out.trans (HQ.out.below.mono HBB.out.size)⟩
    · have _ := ph
      rw [G4.out h hi]
      subst h
      obtain rfl : n1 = false := by rw [← N1.out]; simp; omega
      clear G1 G2 G3 G4 hi
      go_enter Tryz.func29, Tryz.ntmps29
      go_upto_region 1 with fail
      go_cut [9] from 5 to 9 (fun sv wx => sv = .bool false ∧ Hid (Below (w.heap.size + 2) ((w.alloc (.cells #[.bool false, .slice a1 k1 c1] 64)).alloc (.cells #[.bool n2, .slice a2 k2 c2] 64)) wx))
      case first =>
        go_region_with (go_at_call 51; (first | (with_reducible refine (SX.out _).mono ?_) | (with_reducible refine (SY.out _).mono ?_)); rintro e w1 ⟨rfl, hb1⟩; (first | (with_reducible have HB := Lib.hid (STEP.out _ _ HB.out hb1)) | (with_reducible have HB := Lib.hid (STEP.out _ _ (HB.out.drew) hb1)) | (with_reducible have HB := Lib.hid (STEP.out _ _ BASE.out hb1))); obtain ⟨p0, p1, p2, p3⟩ := KEEP.out _ HB.out; clear hb1)
        all_goals (go_wp2_with fail; go_meet; exact ⟨rfl, HB⟩)
      case rest =>
        obtain ⟨rfl, HB⟩ := hcut
        obtain ⟨p0, p1, p2, p3⟩ := KEEP.out _ HB.out
        obtain ⟨hb, hy1, hy2⟩ := FIN.out _ HB.out
        have C := Lib.hid (order_anyX _ _ _ _ _ hy1 hy2 HI.out HJ.out)
        have HBB := Lib.hid hb
        clear hb hy1 hy2
        go_wp2_with fail
        refine C.out.mono ?_
        rintro e w2 ⟨rfl, hq⟩
        have HQ := Lib.hid hq
        clear hq
        go_wp2_with fail
        go_ret
        exact ⟨rfl, HBB.out.trans (HQ.out.below.mono HBB.out.size)⟩
  · rw [G2.out h]
    clear G1 G2 G3 G4
    have hne : (s != t) = true := by simp; omega
    have hlt : decide (s < t) = false := by simp; omega
    go_enter Tryz.func29, Tryz.ntmps29
    go_upto_region 1 with fail
    go_cut [9] from 5 to 9 (fun sv wx => sv = .bool true ∧ Hid (Below (w.heap.size + 2) ((w.alloc (.cells #[.bool n1, .slice a1 k1 c1] 64)).alloc (.cells #[.bool n2, .slice a2 k2 c2] 64)) wx))
    case first =>
      go_region_with (go_at_call 51; (first | (with_reducible refine (SX.out _).mono ?_) | (with_reducible refine (SY.out _).mono ?_)); rintro e w1 ⟨rfl, hb1⟩; (first | (with_reducible have HB := Lib.hid (STEP.out _ _ HB.out hb1)) | (with_reducible have HB := Lib.hid (STEP.out _ _ (HB.out.drew) hb1)) | (with_reducible have HB := Lib.hid (STEP.out _ _ BASE.out hb1))); obtain ⟨p0, p1, p2, p3⟩ := KEEP.out _ HB.out; clear hb1)
      all_goals (go_wp2_with fail; go_meet; exact ⟨rfl, HB⟩)
    case rest =>
      obtain ⟨rfl, HB⟩ := hcut
      obtain ⟨p0, p1, p2, p3⟩ := KEEP.out _ HB.out
      go_upto_region 2 with fail
      go_cut [14] from 10 to 14 (fun sv wx => sv = .bool false ∧ Hid (Below (w.heap.size + 2) ((w.alloc (.cells #[.bool n1, .slice a1 k1 c1] 64)).alloc (.cells #[.bool n2, .slice a2 k2 c2] 64)) wx))
      case first =>
        go_region_with (go_at_call 51; (first | (with_reducible refine (SX.out _).mono ?_) | (with_reducible refine (SY.out _).mono ?_)); rintro e w1 ⟨rfl, hb1⟩; (first | (with_reducible have HB := Lib.hid (STEP.out _ _ HB.out hb1)) | (with_reducible have HB := Lib.hid (STEP.out _ _ (HB.out.drew) hb1)) | (with_reducible have HB := Lib.hid (STEP.out _ _ BASE.out hb1))); obtain ⟨p0, p1, p2, p3⟩ := KEEP.out _ HB.out; clear hb1)
        all_goals (go_wp2_with fail; go_meet; exact ⟨rfl, HB⟩)
      case rest =>
        obtain ⟨rfl, HB⟩ := hcut
        obtain ⟨p0, p1, p2, p3⟩ := KEEP.out _ HB.out
        go_wp2_with fail
        go_ret
        exact ⟨rfl, (FIN.out _ HB.out).1⟩

set_option maxHeartbeats 1600000 in
theorem specInt64_anyX (i : Int) (x : Value) (w : World) (hx : Sp w w.heap.size x i) (hi : FitX i.natAbs) :
    Calls Tryz.prog 49 #[x] w (I64Post i w) := by
  by_cases hbig : i.natAbs < lim
  · exact specInt64_any i x w hx hbig
  obtain ⟨m1, rfl, b1⟩ := id hx
  obtain ⟨xs, r1, s1⟩ := id b1
  obtain ⟨a, c, rfl, hc1, _⟩ := id s1
  simp only [List.length_map] at *
  generalize xs.length = k at *
  obtain ⟨n, hn⟩ : ∃ n, n = decide (i < 0) := ⟨_, rfl⟩
  rw [← hn] at hx ⊢
  obtain ⟨W0, hW0⟩ : ∃ W0, W0 = w.alloc (.cells #[.bool n, .slice a k c] 64) := ⟨_, rfl⟩
  have hb0 : Below w.heap.size w W0 := by rw [hW0]; exact (Below.refl _ _).alloc (Nat.le_refl _) _
  have hsz : W0.heap.size = w.heap.size + 1 := by rw [hW0]; simp
  have hX : Blk W0 w.heap.size 64 [.bool n, .slice a k c] := by rw [hW0]; exact Blk.new w _ [.bool n, .slice a k c]
  have KEEP : Hid (∀ W, Below W0.heap.size W0 W → W.cell? ⟨w.heap.size, 0, none⟩ = some (.bool n) ∧ W.cell? ⟨w.heap.size, 1, none⟩ = some (.slice a k c)) := Lib.hid (fun W h => by
    have q := hX.below h (by omega)
    exact ⟨q.cell 0 (by simp), q.cell 1 (by simp)⟩)
  have FIN : Hid (∀ W, Below W0.heap.size W0 W → Below w.heap.size w W) := Lib.hid (fun W h => hb0.trans (h.mono (by omega)))
  have SM : Hid (∀ (j : Int) (W : World), Below W0.heap.size W0 W → -9223372036854775808 ≤ j → j ≤ 9223372036854775807 → Calls Tryz.prog 26 #[.int .i64 j] W fun e w' => ∃ q p k' c', e = .returned (.agg #[.bool q, .slice p k' c']) ∧ Sp w' w'.heap.size (.agg #[.bool q, .slice p k' c']) j ∧ Below W0.heap.size W0 w') := Lib.hid (fun j W h h1 h2 => by
    refine (small_any j W h1 h2).mono ?_
    rintro e w' ⟨v, rfl, hs, hb⟩
    obtain ⟨q, p, k', c', rfl⟩ := hs.form
    exact ⟨q, p, k', c', rfl, hs, h.trans (hb.mono h.size)⟩)
  have CM : Hid (∀ (j : Int) (v : Value) (W : World), Below W0.heap.size W0 W → Sp W W.heap.size v j → FitX j.natAbs → Calls Tryz.prog 29 #[.agg #[.bool n, .slice a k c], v] W fun e w' => e = .returned (.int .i64 (cmpI i j)) ∧ Below W0.heap.size W0 w') := Lib.hid (fun j v W h hv hj => by
    have g := hb0.trans (h.mono (by omega))
    refine (specCmp_anyX i j _ v W ((hx.below g).more g.size) hv hi hj).mono ?_
    rintro e w' ⟨rfl, hb⟩
    exact ⟨rfl, h.trans (hb.mono h.size)⟩)
  have HD : Hid (Below W0.heap.size W0 W0.drew) := (Below.refl _ _).drew
  have HB : Hid (Below W0.heap.size W0 W0) := Below.refl _ _
  obtain ⟨p0, p1⟩ := KEEP.out _ HB.out
  clear hx b1 r1 s1 hX hb0 hsz
  unfold I64Post
  rcases Int.lt_or_le i (-9223372036854775808) with hlo | hlo
  · have E1 := Lib.hid (cmpI_lo i hlo)
    have EF : fits64 i = false := by unfold fits64; simp; omega
    rw [EF]
    have CM1 := Lib.hid (CM.out (-9223372036854775808)); rw [E1.out] at CM1
    clear hi hn hlo EF CM E1 hbig
    subst hW0
    go_enter Tryz.func49, Tryz.ntmps49
    go_wp2_with fail
    go_region_with (first
        | (go_at_call 26; (with_reducible refine (SM.out _ _ (by first | exact HB.out | (with_unfolding_all exact HD.out)) (by decide) (by decide)).mono ?_); rintro e w4 ⟨q, p, k', c', rfl, hs, hb⟩; have HS := Lib.hid hs; have HB := Lib.hid hb; obtain ⟨p0, p1⟩ := KEEP.out _ hb; clear hs hb)
        | (go_at_call 29; (with_reducible refine (CM1.out _ _ HB.out HS.out (fitX_small _ (by decide) (by decide))).mono ?_); rintro e w5 ⟨rfl, hb⟩; have HB := Lib.hid hb; obtain ⟨p0, p1⟩ := KEEP.out _ hb; clear hb))
    all_goals
      go_wp2_with fail
      go_ret2
      exact ⟨rfl, FIN.out _ HB.out⟩
  · have E1 := cmpI_ge i (-9223372036854775808) hlo
    have CM1 := Lib.hid (CM.out (-9223372036854775808))
    have CM2 := Lib.hid (CM.out 9223372036854775807)
    rcases Int.lt_or_le 9223372036854775807 i with hhi | hhi
    · rw [cmpI_hi i hhi] at CM2
      have EF : fits64 i = false := by unfold fits64; simp; omega
      rw [EF]
      generalize cmpI i (-9223372036854775808) = r1 at *
      have D1 : decide (r1 < 0) = false := by simpa using E1
      clear hi hn hlo hhi EF CM hbig
      subst hW0
      go_enter Tryz.func49, Tryz.ntmps49
      go_wp2_with fail
      go_region_with (first
          | (go_at_call 26; (with_reducible refine (SM.out _ _ (by first | exact HB.out | (with_unfolding_all exact HD.out)) (by decide) (by decide)).mono ?_); rintro e w4 ⟨q, p, k', c', rfl, hs, hb⟩; have HS := Lib.hid hs; have HB := Lib.hid hb; obtain ⟨p0, p1⟩ := KEEP.out _ hb; clear hs hb)
          | (go_at_call 29; (with_reducible refine (CM1.out _ _ HB.out HS.out (fitX_small _ (by decide) (by decide))).mono ?_); rintro e w5 ⟨rfl, hb⟩; have HB := Lib.hid hb; obtain ⟨p0, p1⟩ := KEEP.out _ hb; clear hb)
          | (go_at_call 29; (with_reducible refine (CM2.out _ _ HB.out HS.out (fitX_small _ (by decide) (by decide))).mono ?_); rintro e w5 ⟨rfl, hb⟩; have HB := Lib.hid hb; obtain ⟨p0, p1⟩ := KEEP.out _ hb; clear hb))
      all_goals
        go_wp2_with fail
        go_ret2
        exact ⟨rfl, FIN.out _ HB.out⟩
    · exact absurd (small_lim i hlo hhi) hbig

end Go.Proofs.YtggpaejlmfppoaaGreat
