/- spec.order, Sign, Cmp; (*Int).Cmp; (starlark.Int).bigInt, Cmp; impl.IntCmp. (spec.Int).Cmp; (*Int).Cmp; (starlark.Int).bigInt, Cmp; impl.IntCmp. laws.is: a value of the kind Int and the reference's integer: true where they stand for one number. -/
import Derived.Test.YtpcnmgldmnncoaaGreatDoorCmp
import Derived.Test.YtpcnmgldmnncoaaGreatDoorMWhole
import Derived.Deep.RegionWith
import Derived.Deep.CutRange
import Derived.Test.YtpcnmgldmnncoaaGreatDoorRows
import Derived.Test.YtpcnmgldmnncoaaGreatDoorMBase
namespace Go.Proofs.YtpcnmgldmnncoaaGreatDoor
open Go.RowKit Dig
set_option linter.unusedVariables false
set_option linter.unusedSimpArgs false
set_option maxRecDepth 100000

set_option maxHeartbeats 1600000 in
theorem order_any (m n : Nat) (x y : Value) (w : World) (hx : By w w.heap.size x m) (hy : By w w.heap.size y n) (hm : m < lim) (hn : n < lim) :
    Calls Tryz.prog 25 #[x, y] w (CmpPost (cmpN m n) w) := by
  obtain ⟨xs, rx, hx⟩ := hx
  obtain ⟨ys, ry, hy⟩ := hy
  have lx := rx.length_le hm
  have ly := ry.length_le hn
  obtain ⟨a1, c1, rfl, hc1, hr1⟩ := hx
  obtain ⟨a2, c2, rfl, hc2, hr2⟩ := hy
  simp only [List.length_map, ne_eq, List.map_eq_nil_iff] at hc1 hc2 hr1 hr2 ⊢
  rcases Nat.lt_trichotomy xs.length ys.length with hlt | heq | hgt
  · have e := cmpN_lt (Rep.len_lt (by omega) rx ry (by simpa using hlt))
    rw [e]
    have hne : ¬ ((xs.length : Int) = ys.length) := by omega
    clear hr1 hr2 rx ry e hm hn
    go_enter Tryz.func25, Tryz.ntmps25
    go_wp2_with fail
    go_ret
    exact ⟨rfl, Qt.refl _⟩
  · obtain ⟨K, hK⟩ : ∃ K, K = xs.length := ⟨_, rfl⟩
    have HK1 : Hid (xs.length = K) := hK.symm
    have HK2 : Hid (ys.length = K) := by show _ = _; omega
    have R1 : Hid (∀ k, k < K → ∃ b o, a1 = some ⟨b, o, none⟩ ∧ w.cell? ⟨b, o + k, none⟩ = some (.int .u8 ((xs.getD k 0 : Nat) : Int)) ∧ xs.getD k 0 < 256) := Lib.hid (fun k hk => by
      obtain ⟨b1, o1, rfl, _, r1⟩ := hr1 (fun h => by rw [h] at hK; simp only [List.length_nil] at hK; omega)
      have := r1 k (by simp; omega)
      rw [getD_map_bv xs k (by omega)] at this
      exact ⟨b1, o1, rfl, this, rx.lt _ (by rw [List.getD_eq_getElem?_getD, List.getElem?_eq_getElem (by omega)]; simp)⟩)
    have R2 : Hid (∀ k, k < K → ∃ b o, a2 = some ⟨b, o, none⟩ ∧ w.cell? ⟨b, o + k, none⟩ = some (.int .u8 ((ys.getD k 0 : Nat) : Int)) ∧ ys.getD k 0 < 256) := Lib.hid (fun k hk => by
      obtain ⟨b2, o2, rfl, _, r2⟩ := hr2 (fun h => by rw [h] at heq; simp only [List.length_nil] at heq; omega)
      have := r2 k (by simp; omega)
      rw [getD_map_bv ys k (by omega)] at this
      exact ⟨b2, o2, rfl, this, ry.lt _ (by rw [List.getD_eq_getElem?_getD, List.getElem?_eq_getElem (by omega)]; simp)⟩)
    rw [← hK] at hc1 lx ⊢
    rw [← heq, ← hK] at hc2 ⊢
    have RX := Lib.hid rx
    have RY := Lib.hid ry
    obtain ⟨R, hR⟩ : ∃ R, R = cmpN m n := ⟨_, rfl⟩
    have HR : Hid (cmpN m n = R) := hR.symm
    rw [← hR]
    clear hr1 hr2 rx ry heq hm hn hK hR ly
    go_enter Tryz.func25, Tryz.ntmps25
    go_wp2_with fail
    go_loopw [5] (fun i wr => ∃ k : Nat, k ≤ K ∧ i = .int .i64 k ∧ Hid (xs.take k = ys.take k) ∧ Hid (Qt w wr)) (fun i _ => K - (intOf i).toNat)
    case atStart => exact ⟨0, by omega, rfl, Lib.hid (by simp), Qt.refl w⟩
    case round =>
      obtain ⟨k, hk, rfl, hd, hq⟩ := hrel
      by_cases hkk : k < K
      · obtain ⟨b1, o1, rfl, q1, hu⟩ := R1.out k hkk
        obtain ⟨b2, o2, rfl, q2, hv⟩ := R2.out k hkk
        rw [← hq.out.cell] at q1 q2
        have hlt : Hid (xs.getD k 0 < ys.getD k 0 → R = -1) := Lib.hid (fun h => by
          rw [← HR.out, cmpN_lt (Bytes.lt_at RX.out RY.out k (by have := HK1.out; omega) (by have := HK1.out; have := HK2.out; omega) hd.out h)])
        have hgt : Hid (ys.getD k 0 < xs.getD k 0 → R = 1) := Lib.hid (fun h => by
          rw [← HR.out, cmpN_gt (Bytes.lt_at RY.out RX.out k (by have := HK2.out; omega) (by have := HK1.out; have := HK2.out; omega) hd.out.symm h)])
        have hdn : Hid (xs.getD k 0 = ys.getD k 0 → xs.take (k + 1) = ys.take (k + 1)) := Lib.hid (fun h => take_succ_eq (by have := HK1.out; omega) (by have := HK1.out; have := HK2.out; omega) hd.out h)
        generalize xs.getD k 0 = u at *
        generalize ys.getD k 0 = v at *
        clear hd
        have hbi : (k : Int) < (K : Int) := by omega
        have hbi0 : (0 : Int) ≤ (k : Int) := by omega
        have hbt : ((k : Int)).toNat = k := by omega
        rcases Nat.lt_trichotomy u v with h | h | h
        · obtain rfl := hlt.out h
          have hne : ((u : Int) == (v : Int)) = false := by simp; omega
          clear hlt hgt hdn
          go_wp2_with fail
          go_quiet (fail)
          go_wp2_with fail
          go_quiet (fail)
          go_wp2_with fail
          go_ret
          exact ⟨rfl, (hq.out.drewN _).drewN _⟩
        · subst h
          have D := Lib.hid (hdn.out rfl)
          clear hlt hgt hdn
          go_wp2_with fail
          go_quiet (fail)
          go_wp2_with fail
          go_roundw
          case rel => exact ⟨k + 1, by omega, by go_num, D, hq.out.drewN _⟩
          case measure => simp [intOf]; omega
        · obtain rfl := hgt.out h
          have hne : ((u : Int) == (v : Int)) = false := by simp; omega
          clear hlt hgt hdn
          go_wp2_with fail
          go_quiet (fail)
          go_wp2_with fail
          go_quiet (fail)
          go_wp2_with fail
          go_ret
          exact ⟨rfl, (hq.out.drewN _).drewN _⟩
      · obtain rfl : k = K := by omega
        have hR0 : R = 0 := by
          have h := hd.out
          rw [List.take_of_length_le (by have := HK1.out; omega), List.take_of_length_le (by have := HK2.out; omega)] at h
          have e1 := Rep.val RX.out
          have e2 := Rep.val RY.out
          rw [h] at e1
          rw [← HR.out, ← e1, ← e2, cmpN_eq]
        subst hR0
        go_wp2_with fail
        go_ret
        exact ⟨rfl, hq.out⟩
  · have e := cmpN_gt (Rep.len_lt (by omega) ry rx (by simpa using hgt))
    rw [e]
    have hne : ¬ ((xs.length : Int) = ys.length) := by omega
    clear hr1 hr2 rx ry e hm hn
    go_enter Tryz.func25, Tryz.ntmps25
    go_wp2_with fail
    go_ret
    exact ⟨rfl, Qt.refl _⟩

/-- the reference's sign needs no memory -/
theorem specSign_any (i : Int) (a : Option Addr) (k c : Nat) (w : World) (hk : k ≤ 4096) (h : k = 0 ↔ i = 0) :
    Calls Tryz.prog 24 #[.agg #[.bool (decide (i < 0)), .slice a k c]] w fun e w' => e = .returned (.int .i64 (sgn i)) ∧ Below w.heap.size w w' := by
  by_cases h0 : k = 0
  · obtain rfl := h.1 h0
    subst h0
    clear h
    go_enter Tryz.func24, Tryz.ntmps24
    go_wp2
    go_ret
    exact ⟨rfl, by go_grown⟩
  · have h1 : ¬ i = 0 := fun e => h0 (h.2 e)
    have hne : ((k : Int) == 0) = false := by simp; omega
    clear h
    by_cases h2 : i < 0
    · have e : sgn i = -1 := by simp [sgn, h2]
      rw [e, decide_eq_true h2]
      clear e h1 h2
      go_enter Tryz.func24, Tryz.ntmps24
      go_wp2
      go_ret
      exact ⟨rfl, by go_grown⟩
    · have e : sgn i = 1 := by simp [sgn, h2, h1]
      rw [e, decide_eq_false h2]
      clear e h1 h2
      go_enter Tryz.func24, Tryz.ntmps24
      go_wp2
      go_ret
      exact ⟨rfl, by go_grown⟩
end Go.Proofs.YtpcnmgldmnncoaaGreatDoor

namespace Go.Proofs.YtpcnmgldmnncoaaGreatDoor
open Go.RowKit Dig
set_option linter.unusedVariables false
set_option linter.unusedSimpArgs false
set_option maxRecDepth 100000

theorem cmpI_sgn {i j : Int} (h : sgn i < sgn j) : cmpI i j = -1 := by
  unfold sgn at h
  unfold cmpI
  rw [if_pos]
  split at h <;> split at h <;> (try split at h) <;> (try split at h) <;> omega
theorem cmpI_sgn' {i j : Int} (h : sgn j < sgn i) : cmpI i j = 1 := by
  unfold sgn at h
  unfold cmpI
  rw [if_neg, if_pos] <;> split at h <;> split at h <;> (try split at h) <;> (try split at h) <;> omega
theorem cmpI_neg {i j : Int} (h : sgn i = sgn j) (hi : i < 0) : cmpI i j = cmpN j.natAbs i.natAbs := by
  have hj : j < 0 := by
    unfold sgn at h
    rw [if_pos hi] at h
    split at h
    · assumption
    · split at h <;> omega
  unfold cmpI cmpN
  have e1 : i < j ↔ j.natAbs < i.natAbs := by omega
  have e2 : j < i ↔ i.natAbs < j.natAbs := by omega
  simp only [e1, e2]
theorem cmpI_pos {i j : Int} (h : sgn i = sgn j) (hi : ¬ i < 0) : cmpI i j = cmpN i.natAbs j.natAbs := by
  have hj : ¬ j < 0 := by
    unfold sgn at h
    rw [if_neg hi] at h
    intro hj
    rw [if_pos hj] at h
    split at h <;> omega
  unfold cmpI cmpN
  have e1 : i < j ↔ i.natAbs < j.natAbs := by omega
  have e2 : j < i ↔ j.natAbs < i.natAbs := by omega
  simp only [e1, e2]

def IntPost (r : Int) (w : World) (e : Ending) (w' : World) : Prop := e = .returned (.int .i64 r) ∧ Below w.heap.size w w'

set_option maxHeartbeats 3200000 in
theorem specCmp_any (i j : Int) (x y : Value) (w : World) (hx : Sp w w.heap.size x i) (hy : Sp w w.heap.size y j) (hi : i.natAbs < lim) (hj : j.natAbs < lim) :
    Calls Tryz.prog 13 #[x, y] w (IntPost (cmpI i j) w) := by
  obtain ⟨m1, rfl, b1⟩ := hx
  obtain ⟨m2, rfl, b2⟩ := hy
  obtain ⟨xs, r1, s1⟩ := id b1
  obtain ⟨ys, r2, s2⟩ := id b2
  have l1 := r1.length_le hi
  have l2 := r2.length_le hj
  have z1 := r1.nil_iff
  have z2 := r2.nil_iff
  obtain ⟨a1, c1, rfl, hc1, _⟩ := id s1
  obtain ⟨a2, c2, rfl, hc2, _⟩ := id s2
  simp only [List.length_map] at *
  have zz1 : xs.length = 0 ↔ i = 0 := by rw [List.length_eq_zero_iff, z1]; omega
  have zz2 : ys.length = 0 ↔ j = 0 := by rw [List.length_eq_zero_iff, z2]; omega
  have SX := Lib.hid (fun W => specSign_any i a1 xs.length c1 W l1 zz1)
  have SY := Lib.hid (fun W => specSign_any j a2 ys.length c2 W l2 zz2)
  generalize hk1 : xs.length = k1 at *
  generalize hk2 : ys.length = k2 at *
  generalize hn1 : decide (i < 0) = n1 at *
  generalize hn2 : decide (j < 0) = n2 at *
  obtain ⟨W0, hW0⟩ : ∃ W0, W0 = (w.alloc (.cells #[.bool n1, .slice a1 k1 c1] 24)).alloc (.cells #[.bool n2, .slice a2 k2 c2] 24) := ⟨_, rfl⟩
  have hsz : W0.heap.size = w.heap.size + 2 := by rw [hW0]; simp
  have hb0 : Below w.heap.size w W0 := by rw [hW0]; exact ((Below.refl _ _).alloc (Nat.le_refl _) _).alloc (by simp) _
  have hX : Blk W0 w.heap.size 24 [.bool n1, .slice a1 k1 c1] := by rw [hW0]; exact (Blk.new w _ [.bool n1, .slice a1 k1 c1]).alloc _
  have hY : Blk W0 (w.heap.size + 1) 24 [.bool n2, .slice a2 k2 c2] := by
    rw [hW0]
    have := Blk.new (w.alloc (.cells #[.bool n1, .slice a1 k1 c1] 24)) 24 [.bool n2, .slice a2 k2 c2]
    simpa using this
  have BASE : Hid (Below (w.heap.size + 2) W0 W0.drew) := (Below.refl _ _).drew
  have STEP : Hid (∀ w1 w2, Below (w.heap.size + 2) W0 w1 → Below w1.heap.size w1 w2 → Below (w.heap.size + 2) W0 w2) := Lib.hid (fun w1 w2 h1 h2 => h1.trans (h2.mono (by have := h1.size; omega)))
  have KEEP : Hid (∀ W, Below (w.heap.size + 2) W0 W → W.cell? ⟨w.heap.size, 0, none⟩ = some (.bool n1) ∧ W.cell? ⟨w.heap.size, 1, none⟩ = some (.slice a1 k1 c1) ∧ W.cell? ⟨w.heap.size + 1, 0, none⟩ = some (.bool n2) ∧ W.cell? ⟨w.heap.size + 1, 1, none⟩ = some (.slice a2 k2 c2)) := Lib.hid (fun W h => by
    have hX' := hX.below h (by omega)
    have hY' := hY.below h (by omega)
    exact ⟨hX'.cell 0 (by simp), hX'.cell 1 (by simp), hY'.cell 0 (by simp), hY'.cell 1 (by simp)⟩)
  have FIN : Hid (∀ W, Below (w.heap.size + 2) W0 W → Below w.heap.size w W ∧ By W W.heap.size (.slice a1 k1 c1) i.natAbs ∧ By W W.heap.size (.slice a2 k2 c2) j.natAbs) := Lib.hid (fun W h => by
    have hb := hb0.trans (h.mono (by omega))
    exact ⟨hb, (b1.below hb).more hb.size, (b2.below hb).more hb.size⟩)
  have G1 := Lib.hid (@cmpI_sgn i j)
  have G2 := Lib.hid (@cmpI_sgn' i j)
  have G3 := Lib.hid (@cmpI_neg i j)
  have G4 := Lib.hid (@cmpI_pos i j)
  have HI := Lib.hid hi
  have HJ := Lib.hid hj
  have N1 := Lib.hid hn1
  have hsr1 : -1 ≤ sgn i ∧ sgn i ≤ 1 := by unfold sgn; split <;> (try split) <;> omega
  have hsr2 : -1 ≤ sgn j ∧ sgn j ≤ 1 := by unfold sgn; split <;> (try split) <;> omega
  generalize sgn i = s at *
  generalize sgn j = t at *
  obtain ⟨hs1, hs2⟩ := hsr1
  obtain ⟨ht1, ht2⟩ := hsr2
  clear b1 b2 r1 r2 s1 s2 z1 z2 zz1 zz2 hk1 hk2 hn1 hn2 hsz hb0 hX hY hi hj
  subst hW0
  have ph (W : World) : True := trivial
  rcases Int.lt_trichotomy s t with h | h | h
  · rw [G1.out h]
    clear G1 G2 G3 G4
    have hne : (s != t) = true := by simp; omega
    have hlt : decide (s < t) = true := by simp; omega
    go_enter Tryz.func13, Tryz.ntmps13
    go_upto_region 1 with fail
    go_cut [9] from 5 to 9 (fun sv wx => sv = .bool true ∧ Hid (Below (w.heap.size + 2) ((w.alloc (.cells #[.bool n1, .slice a1 k1 c1] 24)).alloc (.cells #[.bool n2, .slice a2 k2 c2] 24)) wx))
    case first =>
      go_region_with (go_at_call 24; (first | (with_reducible refine (SX.out _).mono ?_) | (with_reducible refine (SY.out _).mono ?_)); rintro e w1 ⟨rfl, hb1⟩; (first | (with_reducible have HB := Lib.hid (STEP.out _ _ HB.out hb1)) | (with_reducible have HB := Lib.hid (STEP.out _ _ (HB.out.drew) hb1)) | (with_reducible have HB := Lib.hid (STEP.out _ _ BASE.out hb1))); obtain ⟨p0, p1, p2, p3⟩ := KEEP.out _ HB.out; clear hb1)
      all_goals (go_wp2_with fail; go_meet; exact ⟨rfl, HB⟩)
    case rest =>
      obtain ⟨rfl, HB⟩ := hcut
      obtain ⟨p0, p1, p2, p3⟩ := KEEP.out _ HB.out
      go_upto_region 2 with fail
      go_cut [14] from 10 to 14 (fun sv wx => sv = .bool true ∧ Hid (Below (w.heap.size + 2) ((w.alloc (.cells #[.bool n1, .slice a1 k1 c1] 24)).alloc (.cells #[.bool n2, .slice a2 k2 c2] 24)) wx))
      case first =>
        go_region_with (go_at_call 24; (first | (with_reducible refine (SX.out _).mono ?_) | (with_reducible refine (SY.out _).mono ?_)); rintro e w1 ⟨rfl, hb1⟩; (first | (with_reducible have HB := Lib.hid (STEP.out _ _ HB.out hb1)) | (with_reducible have HB := Lib.hid (STEP.out _ _ (HB.out.drew) hb1)) | (with_reducible have HB := Lib.hid (STEP.out _ _ BASE.out hb1))); obtain ⟨p0, p1, p2, p3⟩ := KEEP.out _ HB.out; clear hb1)
        all_goals (go_wp2_with fail; go_meet; exact ⟨rfl, HB⟩)
      case rest =>
        obtain ⟨rfl, HB⟩ := hcut
        obtain ⟨p0, p1, p2, p3⟩ := KEEP.out _ HB.out
        go_wp2_with fail
        go_ret
        exact ⟨rfl, (FIN.out _ HB.out).1⟩
  · by_cases hi : i < 0
    · have _ := ph
      rw [G3.out h hi]
      subst h
      obtain rfl : n1 = true := by rw [← N1.out]; simp; omega
      clear G1 G2 G3 G4 hi
      go_enter Tryz.func13, Tryz.ntmps13
      go_upto_region 1 with fail
      go_cut [9] from 5 to 9 (fun sv wx => sv = .bool false ∧ Hid (Below (w.heap.size + 2) ((w.alloc (.cells #[.bool true, .slice a1 k1 c1] 24)).alloc (.cells #[.bool n2, .slice a2 k2 c2] 24)) wx))
      case first =>
        go_region_with (go_at_call 24; (first | (with_reducible refine (SX.out _).mono ?_) | (with_reducible refine (SY.out _).mono ?_)); rintro e w1 ⟨rfl, hb1⟩; (first | (with_reducible have HB := Lib.hid (STEP.out _ _ HB.out hb1)) | (with_reducible have HB := Lib.hid (STEP.out _ _ (HB.out.drew) hb1)) | (with_reducible have HB := Lib.hid (STEP.out _ _ BASE.out hb1))); obtain ⟨p0, p1, p2, p3⟩ := KEEP.out _ HB.out; clear hb1)
        all_goals (go_wp2_with fail; go_meet; exact ⟨rfl, HB⟩)
      case rest =>
        obtain ⟨rfl, HB⟩ := hcut
        obtain ⟨p0, p1, p2, p3⟩ := KEEP.out _ HB.out
        obtain ⟨hb, hy1, hy2⟩ := FIN.out _ HB.out
        have C := Lib.hid (order_any _ _ _ _ _ hy2 hy1 HJ.out HI.out)
        have HBB := Lib.hid hb
        clear hb hy1 hy2
        go_wp2_with fail
        refine C.out.mono ?_
        rintro e w2 ⟨rfl, hq⟩
        have HQ := Lib.hid hq
        clear hq
        go_wp2_with fail
        go_ret
        exact ⟨rfl, HBB.out.trans (HQ.out.below.mono HBB.out.size)⟩
    · have _ := ph
      rw [G4.out h hi]
      subst h
      obtain rfl : n1 = false := by rw [← N1.out]; simp; omega
      clear G1 G2 G3 G4 hi
      go_enter Tryz.func13, Tryz.ntmps13
      go_upto_region 1 with fail
      go_cut [9] from 5 to 9 (fun sv wx => sv = .bool false ∧ Hid (Below (w.heap.size + 2) ((w.alloc (.cells #[.bool false, .slice a1 k1 c1] 24)).alloc (.cells #[.bool n2, .slice a2 k2 c2] 24)) wx))
      case first =>
        go_region_with (go_at_call 24; (first | (with_reducible refine (SX.out _).mono ?_) | (with_reducible refine (SY.out _).mono ?_)); rintro e w1 ⟨rfl, hb1⟩; (first | (with_reducible have HB := Lib.hid (STEP.out _ _ HB.out hb1)) | (with_reducible have HB := Lib.hid (STEP.out _ _ (HB.out.drew) hb1)) | (with_reducible have HB := Lib.hid (STEP.out _ _ BASE.out hb1))); obtain ⟨p0, p1, p2, p3⟩ := KEEP.out _ HB.out; clear hb1)
        all_goals (go_wp2_with fail; go_meet; exact ⟨rfl, HB⟩)
      case rest =>
        obtain ⟨rfl, HB⟩ := hcut
        obtain ⟨p0, p1, p2, p3⟩ := KEEP.out _ HB.out
        obtain ⟨hb, hy1, hy2⟩ := FIN.out _ HB.out
        have C := Lib.hid (order_any _ _ _ _ _ hy1 hy2 HI.out HJ.out)
        have HBB := Lib.hid hb
        clear hb hy1 hy2
        go_wp2_with fail
        refine C.out.mono ?_
        rintro e w2 ⟨rfl, hq⟩
        have HQ := Lib.hid hq
        clear hq
        go_wp2_with fail
        go_ret
        exact ⟨rfl, HBB.out.trans (HQ.out.below.mono HBB.out.size)⟩
  · rw [G2.out h]
    clear G1 G2 G3 G4
    have hne : (s != t) = true := by simp; omega
    have hlt : decide (s < t) = false := by simp; omega
    go_enter Tryz.func13, Tryz.ntmps13
    go_upto_region 1 with fail
    go_cut [9] from 5 to 9 (fun sv wx => sv = .bool true ∧ Hid (Below (w.heap.size + 2) ((w.alloc (.cells #[.bool n1, .slice a1 k1 c1] 24)).alloc (.cells #[.bool n2, .slice a2 k2 c2] 24)) wx))
    case first =>
      go_region_with (go_at_call 24; (first | (with_reducible refine (SX.out _).mono ?_) | (with_reducible refine (SY.out _).mono ?_)); rintro e w1 ⟨rfl, hb1⟩; (first | (with_reducible have HB := Lib.hid (STEP.out _ _ HB.out hb1)) | (with_reducible have HB := Lib.hid (STEP.out _ _ (HB.out.drew) hb1)) | (with_reducible have HB := Lib.hid (STEP.out _ _ BASE.out hb1))); obtain ⟨p0, p1, p2, p3⟩ := KEEP.out _ HB.out; clear hb1)
      all_goals (go_wp2_with fail; go_meet; exact ⟨rfl, HB⟩)
    case rest =>
      obtain ⟨rfl, HB⟩ := hcut
      obtain ⟨p0, p1, p2, p3⟩ := KEEP.out _ HB.out
      go_upto_region 2 with fail
      go_cut [14] from 10 to 14 (fun sv wx => sv = .bool false ∧ Hid (Below (w.heap.size + 2) ((w.alloc (.cells #[.bool n1, .slice a1 k1 c1] 24)).alloc (.cells #[.bool n2, .slice a2 k2 c2] 24)) wx))
      case first =>
        go_region_with (go_at_call 24; (first | (with_reducible refine (SX.out _).mono ?_) | (with_reducible refine (SY.out _).mono ?_)); rintro e w1 ⟨rfl, hb1⟩; (first | (with_reducible have HB := Lib.hid (STEP.out _ _ HB.out hb1)) | (with_reducible have HB := Lib.hid (STEP.out _ _ (HB.out.drew) hb1)) | (with_reducible have HB := Lib.hid (STEP.out _ _ BASE.out hb1))); obtain ⟨p0, p1, p2, p3⟩ := KEEP.out _ HB.out; clear hb1)
        all_goals (go_wp2_with fail; go_meet; exact ⟨rfl, HB⟩)
      case rest =>
        obtain ⟨rfl, HB⟩ := hcut
        obtain ⟨p0, p1, p2, p3⟩ := KEEP.out _ HB.out
        go_wp2_with fail
        go_ret
        exact ⟨rfl, (FIN.out _ HB.out).1⟩
end Go.Proofs.YtpcnmgldmnncoaaGreatDoor

namespace Go.Proofs.YtpcnmgldmnncoaaGreatDoor
open Go.RowKit Dig
set_option linter.unusedVariables false
set_option linter.unusedSimpArgs false
set_option maxRecDepth 100000

set_option maxHeartbeats 400000 in
theorem is_any (i : Int) (v x : Value) (w : World) (hv : Va w w.heap.size v i) (hx : Sp w w.heap.size x i) (hlen : i.natAbs < lim) :
    Calls Tryz.prog 14 #[v, x] w fun e w' => e = .returned (.bool true) ∧ Below w.heap.size w w' := by
  obtain ⟨m1, rfl, ms, hm, hs1⟩ := hv
  obtain ⟨m2, rfl, ns, hn, hs2⟩ := hx
  obtain rfl := hm.unique hn
  have hl : ms.length ≤ 4096 := hm.length_le hlen
  clear hn hm hlen
  generalize decide (i < 0) = neg
  obtain ⟨a1, c1, rfl, hc1, hr1⟩ := hs1
  obtain ⟨a2, c2, rfl, hc2, hr2⟩ := hs2
  simp only [List.length_map, ne_eq, List.map_eq_nil_iff] at hc1 hc2 hr1 hr2
  simp only [List.length_map]
  by_cases h0 : ms = []
  · subst h0
    clear hr1 hr2
    cases neg
    · go_enter Tryz.func14, Tryz.ntmps14
      go_wp2
      go_rounds 1
      go_ret
      exact ⟨rfl, by go_grown⟩
    · go_enter Tryz.func14, Tryz.ntmps14
      go_wp2
      go_rounds 1
      go_ret
      exact ⟨rfl, by go_grown⟩
  · obtain ⟨b1, o1, rfl, hb1, r1⟩ := hr1 h0
    obtain ⟨b2, o2, rfl, hb2, r2⟩ := hr2 h0
    have hp : 0 < ms.length := List.length_pos_iff.2 h0
    have R1 := Lib.hid r1
    have R2 := Lib.hid r2
    clear hr1 hr2 r1 r2 h0
    cases neg <;>
    · go_enter Tryz.func14, Tryz.ntmps14
      go_wp2
      go_loopw [44] (fun i wr => ∃ k : Nat, k ≤ ms.length ∧ i = .int .i64 k ∧ wr.cell? ⟨w.heap.size, 2, none⟩ = some (.slice (some ⟨b1, o1, none⟩) ms.length c1) ∧ wr.cell? ⟨w.heap.size + 1, 1, none⟩ = some (.slice (some ⟨b2, o2, none⟩) ms.length c2) ∧ Below w.heap.size w wr) (fun i _ => ms.length - (intOf i).toNat)
      case atStart => exact ⟨0, Nat.zero_le _, rfl, by simp, by simp, ((Below.refl _ _).alloc (Nat.le_refl _) _).alloc (by simp) _⟩
      case round =>
        obtain ⟨k, hk, rfl, k1, k2, hw⟩ := hrel
        by_cases hlt : k < ms.length
        · have q1 := (R1.out.below hw hb1) k (by simpa using hlt)
          have q2 := (R2.out.below hw hb2) k (by simpa using hlt)
          rw [getD_map_bv ms k hlt] at q1 q2
          generalize ms.getD k 0 = x at *
          have HW := Lib.hid hw; clear hw
          go_wp2
          go_quiet (fail)
          go_wp2
          go_roundw
          case rel => exact ⟨k + 1, by omega, by go_num, k1, k2, below_drewN HW.out _⟩
          case measure => simp [intOf]; omega
        · go_wp2
          go_ret
          exact ⟨rfl, hw⟩
end Go.Proofs.YtpcnmgldmnncoaaGreatDoor
