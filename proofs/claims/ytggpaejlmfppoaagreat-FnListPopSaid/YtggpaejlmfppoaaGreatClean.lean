/- spec.Clean of a value, at depth 0: a scalar. -/
import Derived.Test.YtggpaejlmfppoaaGreatCels
import Derived.Test.YtggpaejlmfppoaaGreatSteps
import Derived.Test.YtggpaejlmfppoaaGreatIntValF
import Derived.Test.YtggpaejlmfppoaaGreatDigLaw
import Derived.Lib.MinMax
import Derived.Laws.DeepStrings4
import Derived.Deep.CutRange
import Derived.Deep.RegionHeld3
namespace Go.Proofs.YtggpaejlmfppoaaGreat
open Go.RowKit Dig
set_option linter.unusedVariables false
set_option linter.unusedSimpArgs false
set_option maxRecDepth 100000

theorem sl_take {w : World} {B : Nat} {a : Option Addr} {l c : Nat} {vs : List Value} (h : Sl w B (.slice a l c) vs) (m : Nat) (hm : m ≤ vs.length) : Sl w B (.slice a m c) (vs.take m) := by
  obtain ⟨a', c', hv, hc, hr⟩ := h
  injection hv with e1 e2 e3
  subst e1 e3
  have hl : (vs.take m).length = m := by simp; omega
  refine ⟨a, c, by rw [hl], by omega, fun hne => ?_⟩
  obtain ⟨b, o, h1, h2, h3⟩ := hr (by intro e; rw [e] at hne; simp at hne)
  exact ⟨b, o, h1, h2, h3.take m⟩
theorem vaC_six {w' : World} {g : Nat} {v : Value} {x : Cel} {L : List Value} {e : TypeId} (h : VaC w' w'.heap.size v x) (hk : Blk w' g e L) (hd : ∀ u ∈ L, ∀ m, u ≠ bv m) (v0 v1 v2 v3 v4 v5 : Value) :
    VaC ((((((w'.setCell ⟨g, 0, none⟩ v0).setCell ⟨g, 1, none⟩ v1).setCell ⟨g, 2, none⟩ v2).setCell ⟨g, 3, none⟩ v3).setCell ⟨g, 4, none⟩ v4).setCell ⟨g, 5, none⟩ v5) ((((((w'.setCell ⟨g, 0, none⟩ v0).setCell ⟨g, 1, none⟩ v1).setCell ⟨g, 2, none⟩ v2).setCell ⟨g, 3, none⟩ v3).setCell ⟨g, 4, none⟩ v4).setCell ⟨g, 5, none⟩ v5).heap.size v x := by
  have hu : Up (some g) w' ((((((w'.setCell ⟨g, 0, none⟩ v0).setCell ⟨g, 1, none⟩ v1).setCell ⟨g, 2, none⟩ v2).setCell ⟨g, 3, none⟩ v3).setCell ⟨g, 4, none⟩ v4).setCell ⟨g, 5, none⟩ v5) :=
    ((((((Up.refl (some g) w').set 0 _).set 1 _).set 2 _).set 3 _).set 4 _).set 5 _
  revert hu
  generalize ((((((w'.setCell ⟨g, 0, none⟩ v0).setCell ⟨g, 1, none⟩ v1).setCell ⟨g, 2, none⟩ v2).setCell ⟨g, 3, none⟩ v3).setCell ⟨g, 4, none⟩ v4).setCell ⟨g, 5, none⟩ v5) = W
  intro hu
  have hsz := hu.size
  cases x with
  | int i =>
    obtain ⟨mag, e, ms, hm, hsl⟩ := h
    exact ⟨mag, e, ms, hm, (Sl.up_far hsl hk (not_bv hd ms) hu).more hsz⟩
  | non => exact h
  | boo b => exact h
  | flt u => exact h
  | str s => exact h
  | byt s => exact h
theorem bval_lt (ms : List Nat) (h : ∀ x ∈ ms, x < 256) : bval ms < 256 ^ ms.length := by
  have := nval_lt 256 ms.reverse (fun x hx => h x (by simpa using hx))
  simpa [bval] using this
theorem zero_bv : ∀ u ∈ [Value.int .i64 0, .bool false, .slice none 0 0, .int .u64 0, .string { data := #[] }, .slice none 0 0], ∀ m, u ≠ bv m := by
  intro u hu m
  simp only [List.mem_cons, List.mem_nil_iff, or_false] at hu
  rcases hu with rfl | rfl | rfl | rfl | rfl | rfl <;> simp [bv]
def ClPost (w : World) (e : Ending) (w' : World) : Prop :=
  ∃ (x : Cel) (n : Bool) (a : Option Addr) (l c : Nat) (t : ByteArray), x.ok ∧ e = .returned (.agg #[.int .i64 x.kind, .bool n, .slice a l c, .int .u64 x.bits, .string t, .slice none 0 0]) ∧ VaC w' w'.heap.size (.agg #[.int .i64 x.kind, .bool n, .slice a l c, .int .u64 x.bits, .string t, .slice none 0 0]) x ∧ Below w.heap.size w w' ∧ ∀ y, a = some y → w.heap.size ≤ y.block
set_option maxHeartbeats 6400000 in
theorem clean_any (kd : Int) (nb : Bool) (ma : Option Addr) (ml mc : Nat) (ub : Int) (tx : ByteArray) (ka : Option Addr) (kn kc : Nat) (ms : List Nat) (w : World) (hk1 : -9223372036854775808 ≤ kd) (hk2 : kd ≤ 9223372036854775807) (hu : 0 ≤ ub) (hms : ∀ x ∈ ms, x < 256) (hsl : Sl w w.heap.size (.slice ma ml mc) (ms.map bv)) :
    Calls Tryz.prog 12 #[.agg #[.int .i64 kd, .bool nb, .slice ma ml mc, .int .u64 ub, .string tx, .slice ka kn kc], .int .i64 0] w (ClPost w) := by
  obtain ⟨W0, hW0⟩ : ∃ W0, W0 = (w.alloc (.cells #[.int .i64 kd, .bool nb, .slice ma ml mc, .int .u64 ub, .string tx, .slice ka kn kc] 27)).alloc (.cells #[.int .i64 0, .bool false, .slice none 0 0, .int .u64 0, .string { data := #[] }, .slice none 0 0] 27) := ⟨_, rfl⟩
  have hb0 : Below w.heap.size w W0 := by rw [hW0]; exact ((Below.refl _ _).alloc (Nat.le_refl _) _).alloc (by simp) _
  have k1 : Blk W0 w.heap.size 27 [.int .i64 kd, .bool nb, .slice ma ml mc, .int .u64 ub, .string tx, .slice ka kn kc] := by rw [hW0]; exact (Blk.new w _ [.int .i64 kd, .bool nb, .slice ma ml mc, .int .u64 ub, .string tx, .slice ka kn kc]).alloc _
  have k2 : Blk W0 (w.heap.size + 1) 27 [.int .i64 0, .bool false, .slice none 0 0, .int .u64 0, .string { data := #[] }, .slice none 0 0] := by
    have := blk_zero (w.alloc (.cells #[.int .i64 kd, .bool nb, .slice ma ml mc, .int .u64 ub, .string tx, .slice ka kn kc] 27))
    rw [hW0]; simpa using this
  have HZ : Hid (∀ W, Below W0.heap.size W0 W → Blk W (w.heap.size + 1) 27 [.int .i64 0, .bool false, .slice none 0 0, .int .u64 0, .string { data := #[] }, .slice none 0 0] ∧ Below w.heap.size w W) := Lib.hid (fun W h => ⟨k2.below h k2.lt, hb0.trans (h.mono hb0.size)⟩)
  have HSL := Lib.hid hsl; have HMS := Lib.hid hms; have HU := Lib.hid hu
  obtain ⟨⟨p0, p1, p2, p3, p4, p5⟩, f0, f1, f2, f3, f4, f5⟩ := six_ready (w := w) k1
  obtain ⟨⟨q0, q1, q2, q3, q4, q5⟩, g0, g1, g2, g3, g4, g5⟩ := six_ready (w := w) k2
  have l1 := k1.lt
  have l2 := k2.lt
  have hl : ml = ms.length := by obtain ⟨a', c', hv, _⟩ := hsl; injection hv with _ h2 _; rw [h2]; simp
  have hlc : ml ≤ mc := by obtain ⟨a', c', hv, h2, _⟩ := hsl; injection hv with _ h3 h4; subst h3 h4; simpa using h2
  have HL := Lib.hid hl
  clear k1 k2 hsl hms hu hb0 hl
  go_enter Tryz.func12, Tryz.ntmps12
  go_upto_if 18 with fail
  rw [← hW0]
  have hκ : 0 ≤ (wrap64 (kd.tmod 10 + 10)).tmod 10 ∧ (wrap64 (kd.tmod 10 + 10)).tmod 10 ≤ 9 := by
    have h1 := Int.tmod_lt_of_pos kd (b := 10) (by decide)
    have h2 := Int.lt_tmod_of_pos kd (b := 10) (by decide)
    have h3 : wrap64 (kd.tmod 10 + 10) = kd.tmod 10 + 10 := by unfold wrap64; omega
    rw [h3, Int.tmod_eq_emod_of_nonneg (by omega)]
    omega
  generalize (wrap64 (kd.tmod 10 + 10)).tmod 10 = κ at *
  obtain ⟨hκ1, hκ2⟩ := hκ
  clear hW0
  go_cut [5] from 8 to 20 (fun u wx => ∃ k : Int, u = .int .i64 k ∧ 0 ≤ k ∧ k ≤ 5 ∧ wx = W0)
  case first =>
    by_cases h6 : κ < 6
    · go_wp2_with fail
      go_meet
      exact ⟨κ, rfl, hκ1, by omega, rfl⟩
    · have hw : IntKind.i64.wrap (κ - 6) = κ - 6 := by rw [IntKind.wrap_i64]; omega
      go_wp2_with fail
      go_meet
      exact ⟨κ - 6, rfl, by omega, by omega, rfl⟩
  case rest =>
    obtain ⟨k, rfl, hκ3, hκ4, rfl⟩ := hcut
    have h6 : k = 0 ∨ k = 1 ∨ k = 2 ∨ k = 3 ∨ k = 4 ∨ k = 5 := by omega
    clear hκ1 hκ2 hκ3 hκ4 hk1 hk2
    rcases h6 with rfl | rfl | rfl | rfl | rfl | rfl
    · have HB := Lib.hid (HZ.out wc (Below.refl _ _)).2
      go_wp2_with fail
      refine bodyPost_ret (v := .agg #[.int .i64 0, .bool false, .slice none 0 0, .int .u64 0, .string ByteArray.empty, .slice none 0 0]) (by simp [results, Tryz.results12, go_sem, q0, q1, q2, q3, q4, q5]; rfl) rfl ?_
      exact ⟨.non, false, none, 0, 0, ByteArray.empty, trivial, rfl, rfl, six_below HB.out (Nat.le_succ _) _ _ _ _ _ _, fun y h => by cases h⟩
    · have BV : Hid (∀ b, Calls Tryz.prog 35 #[.bool b] wc fun e w' => e = .returned (.agg #[.int .i64 1, .bool false, .slice none 0 0, .int .u64 (Cel.boo b).bits, .string ByteArray.empty, .slice none 0 0]) ∧ Below wc.heap.size wc w') := Lib.hid (fun b => boolVal_any b wc)
      go_wp2_with fail
      refine (BV.out _).mono ?_
      generalize (bits BinOp.and IntKind.u64 ub 1 == 1) = b
      rintro e w1 ⟨rfl, hb1⟩
      obtain ⟨hk, hbw⟩ := HZ.out w1 hb1
      clear q0 q1 q2 q3 q4 q5 g0 g1 g2 g3 g4 g5
      obtain ⟨⟨q0, q1, q2, q3, q4, q5⟩, g0, g1, g2, g3, g4, g5⟩ := six_ready (w := w) hk
      have l3 := hk.lt
      have HB := Lib.hid hbw
      clear hb1 hk hbw BV
      generalize hub : (Cel.boo b).bits = u2 at *
      have HUB := Lib.hid hub
      clear hub
      go_wp2_with fail
      refine bodyPost_ret (v := .agg #[.int .i64 1, .bool false, .slice none 0 0, .int .u64 u2, .string ByteArray.empty, .slice none 0 0]) (by simp [results, Tryz.results12, go_sem, q0, q1, q2, q3, q4, q5]) rfl ?_
      exact ⟨.boo b, false, none, 0, 0, ByteArray.empty, trivial, by rw [HUB.out]; rfl, by rw [HUB.out]; rw [← HUB.out]; rfl, six_below HB.out (Nat.le_succ _) _ _ _ _ _ _, fun y h => by cases h⟩
    · obtain ⟨m, hm⟩ : ∃ m, m = min ml 40 := ⟨_, rfl⟩
      have hmn : min (ml : Int) 40 = (m : Int) := by omega
      have hmc : m ≤ mc := by omega
      have hm40 : m ≤ 40 := by omega
      have hmms : m ≤ ms.length := by have := HL.out; omega
      have OFV : Hid (∀ W, Below wc.heap.size wc W → Calls Tryz.prog 36 #[.bool nb, .slice ma m mc] W fun e w' => ∃ q p k d, e = .returned (.agg #[.bool q, .slice p k d]) ∧ Below wc.heap.size wc w' ∧ Hid (Calls Tryz.prog 25 #[.agg #[.bool q, .slice p k d]] w' fun e w'' => ∃ i n a l c, (Cel.int i).ok ∧ e = .returned (.agg #[.int .i64 2, .bool n, .slice a l c, .int .u64 0, .string ByteArray.empty, .slice none 0 0]) ∧ VaC w'' w''.heap.size (.agg #[.int .i64 2, .bool n, .slice a l c, .int .u64 0, .string ByteArray.empty, .slice none 0 0]) (.int i) ∧ Below wc.heap.size wc w'' ∧ ∀ x, a = some x → w.heap.size ≤ x.block)) := Lib.hid (fun W h => by
        have hbw := (HZ.out W h).2
        have hsl1 := sl_take ((HSL.out.below hbw).more hbw.size) m (by simpa using hmms)
        rw [← List.map_take] at hsl1
        have hlt : ∀ x ∈ ms.take m, x < 256 := fun x hx => HMS.out x (List.mem_of_mem_take hx)
        refine (of_anyX nb (ms.take m) _ W hlt (by simp; omega) hsl1).mono ?_
        intro e w' ho
        obtain ⟨v, rfl, hs, hb⟩ := OfPost.sp ho
        obtain ⟨q, p, k, d, rfl⟩ := hs.form
        have hb2 := h.trans (hb.mono h.size)
        have hok : (if nb = true then -((bval (ms.take m) : Nat) : Int) else (bval (ms.take m) : Nat)).natAbs < lim := by
          have h1 := bval_lt (ms.take m) hlt
          have h2 : (if nb = true then -((bval (ms.take m) : Nat) : Int) else (bval (ms.take m) : Nat)).natAbs = bval (ms.take m) := by by_cases hn : nb = true <;> simp [hn]
          rw [h2]
          refine lt_lim (j := 40) ?_ (by omega)
          refine Nat.lt_of_lt_of_le h1 (Nat.pow_le_pow_right (by decide) (by simp; omega))
        refine ⟨q, p, k, d, rfl, hb2, Lib.hid ((intValF_any _ _ w' hs hok).mono ?_)⟩
        rintro e w'' ⟨n, a, l, c, rfl, hva, hb3, hfr⟩
        exact ⟨_, n, a, l, c, hok, rfl, hva, hb2.trans (hb3.mono hb2.size), fun x hx => Nat.le_trans (HZ.out _ hb2).2.size (hfr x hx)⟩)
      have H0 : Hid (Below wc.heap.size wc wc) := Lib.hid (Below.refl _ _)
      clear hm hmms hm40
      have KP : Hid (∀ W, Below wc.heap.size wc W → W.cell? ⟨w.heap.size, 1, none⟩ = some (.bool nb) ∧ W.cell? ⟨w.heap.size, 2, none⟩ = some (.slice ma ml mc)) := Lib.hid (fun W h => ⟨(h.cell (p := ⟨w.heap.size, 1, none⟩) l1).trans p1, (h.cell (p := ⟨w.heap.size, 2, none⟩) l1).trans p2⟩)
      have KS : Hid (∀ W v0 v1 v2 v3 v4 v5, Below wc.heap.size wc W → (fun w' : World => w'.cell? ⟨w.heap.size, 1, none⟩ = some (.bool nb) ∧ w'.cell? ⟨w.heap.size, 2, none⟩ = some (.slice ma ml mc)) ((((((W.setCell ⟨w.heap.size + 1, 0, none⟩ v0).setCell ⟨w.heap.size + 1, 1, none⟩ v1).setCell ⟨w.heap.size + 1, 2, none⟩ v2).setCell ⟨w.heap.size + 1, 3, none⟩ v3).setCell ⟨w.heap.size + 1, 4, none⟩ v4).setCell ⟨w.heap.size + 1, 5, none⟩ v5)) := Lib.hid (fun W v0 v1 v2 v3 v4 v5 h => by
        have hc : ∀ o, ((((((W.setCell ⟨w.heap.size + 1, 0, none⟩ v0).setCell ⟨w.heap.size + 1, 1, none⟩ v1).setCell ⟨w.heap.size + 1, 2, none⟩ v2).setCell ⟨w.heap.size + 1, 3, none⟩ v3).setCell ⟨w.heap.size + 1, 4, none⟩ v4).setCell ⟨w.heap.size + 1, 5, none⟩ v5).cell? ⟨w.heap.size, o, none⟩ = W.cell? ⟨w.heap.size, o, none⟩ := fun o => by
          have hu := ((((((Up.refl (some (w.heap.size + 1)) W).set 0 v0).set 1 v1).set 2 v2).set 3 v3).set 4 v4).set 5 v5
          exact World.cell?_of_block (a := ⟨w.heap.size, o, none⟩) (hu.block w.heap.size (Nat.lt_of_lt_of_le l1 h.size) (by intro e; injection e with e; omega))
        exact ⟨(hc 1).trans (KP.out W h).1, (hc 2).trans (KP.out W h).2⟩)
      simp only at KS
      go_wp2_with fail
      go_region_held3 (fun w' => w'.cell? ⟨w.heap.size, 1, none⟩ = some (.bool nb) ∧ w'.cell? ⟨w.heap.size, 2, none⟩ = some (.slice ma ml mc)) (with_reducible first | exact KP.out _ H0.out | exact KP.out _ (below_drew1 H0.out) | exact KS.out _ _ _ _ _ _ _ H0.out) ((first | (go_at_call 36; (first | (with_reducible refine (OFV.out _ (below_drew1 H0.out)).mono ?_) | (with_reducible refine (OFV.out _ H0.out).mono ?_)); rintro e w1 ⟨q, p, k, d, rfl, hb, hc⟩; have IV := hc; have H0 := Lib.hid hb; clear hb hc) | (go_at_call 25; (with_reducible refine IV.out.mono ?_); rintro e w2 ⟨i, n, a, l, c, hok, rfl, hva, hb, hfr⟩; have hkb := HZ.out w2 hb; have HOK := Lib.hid hok; have HFR := Lib.hid hfr; have HBW := Lib.hid hkb.2; have HV := Lib.hid (vaC_six hva hkb.1 zero_bv (.int .i64 2) (.bool n) (.slice a l c) (.int .u64 0) (.string ByteArray.empty) (.slice none 0 0)); clear q0 q1 q2 q3 q4 q5 g0 g1 g2 g3 g4 g5; obtain ⟨⟨q0, q1, q2, q3, q4, q5⟩, g0, g1, g2, g3, g4, g5⟩ := six_ready (w := w) hkb.1; have l3 := hkb.1.lt; have H0 := Lib.hid hb; clear hok hva hb hfr hkb)))
      all_goals go_wp2_with fail
      all_goals refine bodyPost_ret (v := .agg #[.int .i64 2, .bool n, .slice a l c, .int .u64 0, .string ByteArray.empty, .slice none 0 0]) (by simp [results, Tryz.results12, go_sem, q0, q1, q2, q3, q4, q5]) rfl ?_
      all_goals exact ⟨.int i, n, a, l, c, ByteArray.empty, HOK.out, rfl, HV.out, six_below HBW.out (Nat.le_succ _) _ _ _ _ _ _, HFR.out⟩
    · have HB := Lib.hid (HZ.out wc (Below.refl _ _)).2
      go_wp2_with fail
      refine bodyPost_ret (v := .agg #[.int .i64 3, .bool false, .slice none 0 0, .int .u64 ub, .string ByteArray.empty, .slice none 0 0]) (by simp [results, Tryz.results12, go_sem, q0, q1, q2, q3, q4, q5]; rfl) rfl ?_
      exact ⟨.flt ub, false, none, 0, 0, ByteArray.empty, HU.out, rfl, rfl, six_below HB.out (Nat.le_succ _) _ _ _ _ _ _, fun y h => by cases h⟩
    · have HB := Lib.hid (HZ.out wc (Below.refl _ _)).2
      obtain ⟨m, hm⟩ : ∃ m, m = min tx.size 60 := ⟨_, rfl⟩
      have hmn : min (tx.size : Int) 60 = (m : Int) := by omega
      have hm2 : m ≤ tx.size := by omega
      have HE : Hid ((tx.extract 0 m).size ≤ 60) := Lib.hid (by rw [ByteArray.size_extract]; omega)
      clear hm
      go_wp2_with fail
      refine bodyPost_ret (v := .agg #[.int .i64 4, .bool false, .slice none 0 0, .int .u64 0, .string (tx.extract 0 m), .slice none 0 0]) (by simp [results, Tryz.results12, go_sem, q0, q1, q2, q3, q4, q5]) rfl ?_
      exact ⟨.str (tx.extract 0 m), false, none, 0, 0, tx.extract 0 m, HE.out, rfl, rfl, six_below HB.out (Nat.le_succ _) _ _ _ _ _ _, fun y h => by cases h⟩
    · have HB := Lib.hid (HZ.out wc (Below.refl _ _)).2
      obtain ⟨m, hm⟩ : ∃ m, m = min tx.size 60 := ⟨_, rfl⟩
      have hmn : min (tx.size : Int) 60 = (m : Int) := by omega
      have hm2 : m ≤ tx.size := by omega
      have HE : Hid ((tx.extract 0 m).size ≤ 60) := Lib.hid (by rw [ByteArray.size_extract]; omega)
      clear hm
      go_wp2_with fail
      refine bodyPost_ret (v := .agg #[.int .i64 5, .bool false, .slice none 0 0, .int .u64 0, .string (tx.extract 0 m), .slice none 0 0]) (by simp [results, Tryz.results12, go_sem, q0, q1, q2, q3, q4, q5]) rfl ?_
      exact ⟨.byt (tx.extract 0 m), false, none, 0, 0, tx.extract 0 m, HE.out, rfl, rfl, six_below HB.out (Nat.le_succ _) _ _ _ _ _ _, fun y h => by cases h⟩
end Go.Proofs.YtggpaejlmfppoaaGreat
