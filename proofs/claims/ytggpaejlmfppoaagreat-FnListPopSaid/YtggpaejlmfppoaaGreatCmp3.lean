/- (spec.Int).Cmp; (*Int).Cmp; (starlark.Int).bigInt, Cmp; impl.IntCmp. -/
import Derived.Test.YtggpaejlmfppoaaGreatCmp2
import Derived.Deep.RegionWith
import Derived.Deep.CutRange
namespace Go.Proofs.YtggpaejlmfppoaaGreat
open Go.RowKit Dig
set_option linter.unusedVariables false
set_option linter.unusedSimpArgs false
set_option maxRecDepth 100000

theorem cmpI_sgn {i j : Int} (h : sgn i < sgn j) : cmpI i j = -1 := by
  unfold sgn at h
  unfold cmpI
  rw [if_pos]
  split at h <;> split at h <;> (try split at h) <;> (try split at h) <;> omega
theorem cmpI_sgn' {i j : Int} (h : sgn j < sgn i) : cmpI i j = 1 := by
  unfold sgn at h
  unfold cmpI
  rw [if_neg, if_pos] <;> split at h <;> split at h <;> (try split at h) <;> (try split at h) <;> omega
theorem cmpI_neg {i j : Int} (h : sgn i = sgn j) (hi : i < 0) : cmpI i j = cmpN j.natAbs i.natAbs := by
  have hj : j < 0 := by
    unfold sgn at h
    rw [if_pos hi] at h
    split at h
    · assumption
    · split at h <;> omega
  unfold cmpI cmpN
  have e1 : i < j ↔ j.natAbs < i.natAbs := by omega
  have e2 : j < i ↔ i.natAbs < j.natAbs := by omega
  simp only [e1, e2]
theorem cmpI_pos {i j : Int} (h : sgn i = sgn j) (hi : ¬ i < 0) : cmpI i j = cmpN i.natAbs j.natAbs := by
  have hj : ¬ j < 0 := by
    unfold sgn at h
    rw [if_neg hi] at h
    intro hj
    rw [if_pos hj] at h
    split at h <;> omega
  unfold cmpI cmpN
  have e1 : i < j ↔ i.natAbs < j.natAbs := by omega
  have e2 : j < i ↔ j.natAbs < i.natAbs := by omega
  simp only [e1, e2]

def IntPost (r : Int) (w : World) (e : Ending) (w' : World) : Prop := e = .returned (.int .i64 r) ∧ Below w.heap.size w w'

set_option maxHeartbeats 3200000 in
theorem specCmp_any (i j : Int) (x y : Value) (w : World) (hx : Sp w w.heap.size x i) (hy : Sp w w.heap.size y j) (hi : i.natAbs < lim) (hj : j.natAbs < lim) :
    Calls Tryz.prog 29 #[x, y] w (IntPost (cmpI i j) w) := by
  obtain ⟨m1, rfl, b1⟩ := hx
  obtain ⟨m2, rfl, b2⟩ := hy
  obtain ⟨xs, r1, s1⟩ := id b1
  obtain ⟨ys, r2, s2⟩ := id b2
  have l1 := r1.length_le hi
  have l2 := r2.length_le hj
  have z1 := r1.nil_iff
  have z2 := r2.nil_iff
  obtain ⟨a1, c1, rfl, hc1, _⟩ := id s1
  obtain ⟨a2, c2, rfl, hc2, _⟩ := id s2
  simp only [List.length_map] at *
  have zz1 : xs.length = 0 ↔ i = 0 := by rw [List.length_eq_zero_iff, z1]; omega
  have zz2 : ys.length = 0 ↔ j = 0 := by rw [List.length_eq_zero_iff, z2]; omega
  have SX := Lib.hid (fun W => specSign_any i a1 xs.length c1 W l1 zz1)
  have SY := Lib.hid (fun W => specSign_any j a2 ys.length c2 W l2 zz2)
  generalize hk1 : xs.length = k1 at *
  generalize hk2 : ys.length = k2 at *
  generalize hn1 : decide (i < 0) = n1 at *
  generalize hn2 : decide (j < 0) = n2 at *
  obtain ⟨W0, hW0⟩ : ∃ W0, W0 = (w.alloc (.cells #[.bool n1, .slice a1 k1 c1] 64)).alloc (.cells #[.bool n2, .slice a2 k2 c2] 64) := ⟨_, rfl⟩
  have hsz : W0.heap.size = w.heap.size + 2 := by rw [hW0]; simp
  have hb0 : Below w.heap.size w W0 := by rw [hW0]; exact ((Below.refl _ _).alloc (Nat.le_refl _) _).alloc (by simp) _
  have hX : Blk W0 w.heap.size 64 [.bool n1, .slice a1 k1 c1] := by rw [hW0]; exact (Blk.new w _ [.bool n1, .slice a1 k1 c1]).alloc _
  have hY : Blk W0 (w.heap.size + 1) 64 [.bool n2, .slice a2 k2 c2] := by
    rw [hW0]
    have := Blk.new (w.alloc (.cells #[.bool n1, .slice a1 k1 c1] 64)) 64 [.bool n2, .slice a2 k2 c2]
    simpa using this
  have BASE : Hid (Below (w.heap.size + 2) W0 W0.drew) := (Below.refl _ _).drew
  have STEP : Hid (∀ w1 w2, Below (w.heap.size + 2) W0 w1 → Below w1.heap.size w1 w2 → Below (w.heap.size + 2) W0 w2) := Lib.hid (fun w1 w2 h1 h2 => h1.trans (h2.mono (by have := h1.size; omega)))
  have KEEP : Hid (∀ W, Below (w.heap.size + 2) W0 W → W.cell? ⟨w.heap.size, 0, none⟩ = some (.bool n1) ∧ W.cell? ⟨w.heap.size, 1, none⟩ = some (.slice a1 k1 c1) ∧ W.cell? ⟨w.heap.size + 1, 0, none⟩ = some (.bool n2) ∧ W.cell? ⟨w.heap.size + 1, 1, none⟩ = some (.slice a2 k2 c2)) := Lib.hid (fun W h => by
    have hX' := hX.below h (by omega)
    have hY' := hY.below h (by omega)
    exact ⟨hX'.cell 0 (by simp), hX'.cell 1 (by simp), hY'.cell 0 (by simp), hY'.cell 1 (by simp)⟩)
  have FIN : Hid (∀ W, Below (w.heap.size + 2) W0 W → Below w.heap.size w W ∧ By W W.heap.size (.slice a1 k1 c1) i.natAbs ∧ By W W.heap.size (.slice a2 k2 c2) j.natAbs) := Lib.hid (fun W h => by
    have hb := hb0.trans (h.mono (by omega))
    exact ⟨hb, (b1.below hb).more hb.size, (b2.below hb).more hb.size⟩)
  have G1 := Lib.hid (@cmpI_sgn i j)
  have G2 := Lib.hid (@cmpI_sgn' i j)
  have G3 := Lib.hid (@cmpI_neg i j)
  have G4 := Lib.hid (@cmpI_pos i j)
  have HI := Lib.hid hi
  have HJ := Lib.hid hj
  have N1 := Lib.hid hn1
  have hsr1 : -1 ≤ sgn i ∧ sgn i ≤ 1 := by unfold sgn; split <;> (try split) <;> omega
  have hsr2 : -1 ≤ sgn j ∧ sgn j ≤ 1 := by unfold sgn; split <;> (try split) <;> omega
  generalize sgn i = s at *
  generalize sgn j = t at *
  obtain ⟨hs1, hs2⟩ := hsr1
  obtain ⟨ht1, ht2⟩ := hsr2
  clear b1 b2 r1 r2 s1 s2 z1 z2 zz1 zz2 hk1 hk2 hn1 hn2 hsz hb0 hX hY hi hj
  subst hW0
  have ph (W : World) : True := trivial
  rcases Int.lt_trichotomy s t with h | h | h
  · rw [G1.out h]
    clear G1 G2 G3 G4
    have hne : (s != t) = true := by simp; omega
    have hlt : decide (s < t) = true := by simp; omega
    go_enter Tryz.func29, Tryz.ntmps29
    go_upto_region 1 with fail
    go_cut [9] from 5 to 9 (fun sv wx => sv = .bool true ∧ Hid (Below (w.heap.size + 2) ((w.alloc (.cells #[.bool n1, .slice a1 k1 c1] 64)).alloc (.cells #[.bool n2, .slice a2 k2 c2] 64)) wx))
    case first =>
      go_region_with (go_at_call 51; (first | (with_reducible refine (SX.out _).mono ?_) | (with_reducible refine (SY.out _).mono ?_)); rintro e w1 ⟨rfl, hb1⟩; (first | (with_reducible have HB := Lib.hid (STEP.out _ _ HB.out hb1)) | (with_reducible have HB := Lib.hid (STEP.out _ _ (HB.out.drew) hb1)) | (with_reducible have HB := Lib.hid (STEP.out _ _ BASE.out hb1))); obtain ⟨p0, p1, p2, p3⟩ := KEEP.out _ HB.out; clear hb1)
      all_goals (go_wp2_with fail; go_meet; exact ⟨rfl, HB⟩)
    case rest =>
      obtain ⟨rfl, HB⟩ := hcut
      obtain ⟨p0, p1, p2, p3⟩ := KEEP.out _ HB.out
      go_upto_region 2 with fail
      go_cut [14] from 10 to 14 (fun sv wx => sv = .bool true ∧ Hid (Below (w.heap.size + 2) ((w.alloc (.cells #[.bool n1, .slice a1 k1 c1] 64)).alloc (.cells #[.bool n2, .slice a2 k2 c2] 64)) wx))
      case first =>
        go_region_with (go_at_call 51; (first | (with_reducible refine (SX.out _).mono ?_) | (with_reducible refine (SY.out _).mono ?_)); rintro e w1 ⟨rfl, hb1⟩; (first | (with_reducible have HB := Lib.hid (STEP.out _ _ HB.out hb1)) | (with_reducible have HB := Lib.hid (STEP.out _ _ (HB.out.drew) hb1)) | (with_reducible have HB := Lib.hid (STEP.out _ _ BASE.out hb1))); obtain ⟨p0, p1, p2, p3⟩ := KEEP.out _ HB.out; clear hb1)
        all_goals (go_wp2_with fail; go_meet; exact ⟨rfl, HB⟩)
      case rest =>
        obtain ⟨rfl, HB⟩ := hcut
        obtain ⟨p0, p1, p2, p3⟩ := KEEP.out _ HB.out
        go_wp2_with fail
        go_ret
        exact ⟨rfl, (FIN.out _ HB.out).1⟩
  · by_cases hi : i < 0
    · have _ := ph
      rw [G3.out h hi]
      subst h
      obtain rfl : n1 = true := by rw [← N1.out]; simp; omega
      clear G1 G2 G3 G4 hi
      go_enter Tryz.func29, Tryz.ntmps29
      go_upto_region 1 with fail
      go_cut [9] from 5 to 9 (fun sv wx => sv = .bool false ∧ Hid (Below (w.heap.size + 2) ((w.alloc (.cells #[.bool true, .slice a1 k1 c1] 64)).alloc (.cells #[.bool n2, .slice a2 k2 c2] 64)) wx))
      case first =>
        go_region_with (go_at_call 51; (first | (with_reducible refine (SX.out _).mono ?_) | (with_reducible refine (SY.out _).mono ?_)); rintro e w1 ⟨rfl, hb1⟩; (first | (with_reducible have HB := Lib.hid (STEP.out _ _ HB.out hb1)) | (with_reducible have HB := Lib.hid (STEP.out _ _ (HB.out.drew) hb1)) | (with_reducible have HB := Lib.hid (STEP.out _ _ BASE.out hb1))); obtain ⟨p0, p1, p2, p3⟩ := KEEP.out _ HB.out; clear hb1)
        all_goals (go_wp2_with fail; go_meet; exact ⟨rfl, HB⟩)
      case rest =>
        obtain ⟨rfl, HB⟩ := hcut
        obtain ⟨p0, p1, p2, p3⟩ := KEEP.out _ HB.out
        obtain ⟨hb, hy1, hy2⟩ := FIN.out _ HB.out
        have C := Lib.hid (order_any _ _ _ _ _ hy2 hy1 HJ.out HI.out)
        have HBB := Lib.hid hb
        clear hb hy1 hy2
        go_wp2_with fail
        refine C.out.mono ?_
        rintro e w2 ⟨rfl, hq⟩
        have HQ := Lib.hid hq
        clear hq
        go_wp2_with fail
        go_ret
        exact ⟨rfl, HBB.out.trans (HQ.out.below.mono HBB.out.size)⟩
    · have _ := ph
      rw [G4.out h hi]
      subst h
      obtain rfl : n1 = false := by rw [← N1.out]; simp; omega
      clear G1 G2 G3 G4 hi
      go_enter Tryz.func29, Tryz.ntmps29
      go_upto_region 1 with fail
      go_cut [9] from 5 to 9 (fun sv wx => sv = .bool false ∧ Hid (Below (w.heap.size + 2) ((w.alloc (.cells #[.bool false, .slice a1 k1 c1] 64)).alloc (.cells #[.bool n2, .slice a2 k2 c2] 64)) wx))
      case first =>
        go_region_with (go_at_call 51; (first | (with_reducible refine (SX.out _).mono ?_) | (with_reducible refine (SY.out _).mono ?_)); rintro e w1 ⟨rfl, hb1⟩; (first | (with_reducible have HB := Lib.hid (STEP.out _ _ HB.out hb1)) | (with_reducible have HB := Lib.hid (STEP.out _ _ (HB.out.drew) hb1)) | (with_reducible have HB := Lib.hid (STEP.out _ _ BASE.out hb1))); obtain ⟨p0, p1, p2, p3⟩ := KEEP.out _ HB.out; clear hb1)
        all_goals (go_wp2_with fail; go_meet; exact ⟨rfl, HB⟩)
      case rest =>
        obtain ⟨rfl, HB⟩ := hcut
        obtain ⟨p0, p1, p2, p3⟩ := KEEP.out _ HB.out
        obtain ⟨hb, hy1, hy2⟩ := FIN.out _ HB.out
        have C := Lib.hid (order_any _ _ _ _ _ hy1 hy2 HI.out HJ.out)
        have HBB := Lib.hid hb
        clear hb hy1 hy2
        go_wp2_with fail
        refine C.out.mono ?_
        rintro e w2 ⟨rfl, hq⟩
        have HQ := Lib.hid hq
        clear hq
        go_wp2_with fail
        go_ret
        exact ⟨rfl, HBB.out.trans (HQ.out.below.mono HBB.out.size)⟩
  · rw [G2.out h]
    clear G1 G2 G3 G4
    have hne : (s != t) = true := by simp; omega
    have hlt : decide (s < t) = false := by simp; omega
    go_enter Tryz.func29, Tryz.ntmps29
    go_upto_region 1 with fail
    go_cut [9] from 5 to 9 (fun sv wx => sv = .bool true ∧ Hid (Below (w.heap.size + 2) ((w.alloc (.cells #[.bool n1, .slice a1 k1 c1] 64)).alloc (.cells #[.bool n2, .slice a2 k2 c2] 64)) wx))
    case first =>
      go_region_with (go_at_call 51; (first | (with_reducible refine (SX.out _).mono ?_) | (with_reducible refine (SY.out _).mono ?_)); rintro e w1 ⟨rfl, hb1⟩; (first | (with_reducible have HB := Lib.hid (STEP.out _ _ HB.out hb1)) | (with_reducible have HB := Lib.hid (STEP.out _ _ (HB.out.drew) hb1)) | (with_reducible have HB := Lib.hid (STEP.out _ _ BASE.out hb1))); obtain ⟨p0, p1, p2, p3⟩ := KEEP.out _ HB.out; clear hb1)
      all_goals (go_wp2_with fail; go_meet; exact ⟨rfl, HB⟩)
    case rest =>
      obtain ⟨rfl, HB⟩ := hcut
      obtain ⟨p0, p1, p2, p3⟩ := KEEP.out _ HB.out
      go_upto_region 2 with fail
      go_cut [14] from 10 to 14 (fun sv wx => sv = .bool false ∧ Hid (Below (w.heap.size + 2) ((w.alloc (.cells #[.bool n1, .slice a1 k1 c1] 64)).alloc (.cells #[.bool n2, .slice a2 k2 c2] 64)) wx))
      case first =>
        go_region_with (go_at_call 51; (first | (with_reducible refine (SX.out _).mono ?_) | (with_reducible refine (SY.out _).mono ?_)); rintro e w1 ⟨rfl, hb1⟩; (first | (with_reducible have HB := Lib.hid (STEP.out _ _ HB.out hb1)) | (with_reducible have HB := Lib.hid (STEP.out _ _ (HB.out.drew) hb1)) | (with_reducible have HB := Lib.hid (STEP.out _ _ BASE.out hb1))); obtain ⟨p0, p1, p2, p3⟩ := KEEP.out _ HB.out; clear hb1)
        all_goals (go_wp2_with fail; go_meet; exact ⟨rfl, HB⟩)
      case rest =>
        obtain ⟨rfl, HB⟩ := hcut
        obtain ⟨p0, p1, p2, p3⟩ := KEEP.out _ HB.out
        go_wp2_with fail
        go_ret
        exact ⟨rfl, (FIN.out _ HB.out).1⟩
end Go.Proofs.YtggpaejlmfppoaaGreat
