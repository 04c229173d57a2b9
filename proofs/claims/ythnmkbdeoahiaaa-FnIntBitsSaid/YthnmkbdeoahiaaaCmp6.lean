/- impl.IntCmp. -/
import Derived.Test.YthnmkbdeoahiaaaCmp5
import Derived.Test.YthnmkbdeoahiaaaLawsWhole
namespace Go.Proofs.Ythnmkbdeoahiaaa
open Go.RowKit Dig
set_option linter.unusedVariables false
set_option linter.unusedSimpArgs false
set_option maxRecDepth 100000

set_option maxHeartbeats 3200000 in
theorem implCmp_any (i j : Int) (x y : Value) (w : World) (h1 : Va w w.heap.size x i) (h2 : Va w w.heap.size y j) (hi : i.natAbs < lim) (hj : j.natAbs < lim) :
    Calls Try.prog 19 #[x, y] w fun e w' => e = .returned (.tuple #[.int .i64 (cmpI i j), .bool true]) ∧ Below w.heap.size w w' := by
  obtain ⟨m1, rfl, ms1, y1, s1⟩ := id h1
  obtain ⟨m2, rfl, ms2, y2, s2⟩ := id h2
  obtain ⟨a1, c1, rfl, _⟩ := id s1
  obtain ⟨a2, c2, rfl, _⟩ := id s2
  simp only [List.length_map] at h1 h2 ⊢
  generalize ms1.length = k1 at *
  generalize ms2.length = k2 at *
  generalize decide (i < 0) = n1 at *
  generalize decide (j < 0) = n2 at *
  clear y1 s1 y2 s2
  obtain ⟨W0, hW0⟩ : ∃ W0, W0 = (w.alloc (.cells #[.int .i64 2, .bool n1, .slice a1 k1 c1, .int .u64 0, .string ByteArray.empty, .slice none 0 0] 28)).alloc (.cells #[.int .i64 2, .bool n2, .slice a2 k2 c2, .int .u64 0, .string ByteArray.empty, .slice none 0 0] 28) := ⟨_, rfl⟩
  have hsz : W0.heap.size = w.heap.size + 2 := by rw [hW0]; simp
  have hb0 : Below w.heap.size w W0 := by rw [hW0]; exact ((Below.refl _ _).alloc (Nat.le_refl _) _).alloc (by simp) _
  have hX : Blk W0 w.heap.size 28 [.int .i64 2, .bool n1, .slice a1 k1 c1, .int .u64 0, .string ByteArray.empty, .slice none 0 0] := by rw [hW0]; exact (Blk.new w _ [.int .i64 2, .bool n1, .slice a1 k1 c1, .int .u64 0, .string ByteArray.empty, .slice none 0 0]).alloc _
  have hY : Blk W0 (w.heap.size + 1) 28 [.int .i64 2, .bool n2, .slice a2 k2 c2, .int .u64 0, .string ByteArray.empty, .slice none 0 0] := by
    rw [hW0]
    have := Blk.new (w.alloc (.cells #[.int .i64 2, .bool n1, .slice a1 k1 c1, .int .u64 0, .string ByteArray.empty, .slice none 0 0] 28)) 28 [.int .i64 2, .bool n2, .slice a2 k2 c2, .int .u64 0, .string ByteArray.empty, .slice none 0 0]
    simpa using this
  have HD : Hid (Below (w.heap.size + 2) W0 W0.drew) := (Below.refl _ _).drew
  have STEP : Hid (∀ w1 w2, Below (w.heap.size + 2) W0 w1 → Below w1.heap.size w1 w2 → Below (w.heap.size + 2) W0 w2) := Lib.hid (fun w1 w2 h1 h2 => h1.trans (h2.mono (by have := h1.size; omega)))
  have KEEP : Hid (∀ W, Below (w.heap.size + 2) W0 W → (W.cell? ⟨w.heap.size, 0, none⟩ = some (.int .i64 2) ∧ W.cell? ⟨w.heap.size, 1, none⟩ = some (.bool n1) ∧ W.cell? ⟨w.heap.size, 2, none⟩ = some (.slice a1 k1 c1) ∧ W.cell? ⟨w.heap.size, 3, none⟩ = some (.int .u64 0) ∧ W.cell? ⟨w.heap.size, 4, none⟩ = some (.string ByteArray.empty) ∧ W.cell? ⟨w.heap.size, 5, none⟩ = some (.slice none 0 0)) ∧
      (W.cell? ⟨w.heap.size + 1, 0, none⟩ = some (.int .i64 2) ∧ W.cell? ⟨w.heap.size + 1, 1, none⟩ = some (.bool n2) ∧ W.cell? ⟨w.heap.size + 1, 2, none⟩ = some (.slice a2 k2 c2) ∧ W.cell? ⟨w.heap.size + 1, 3, none⟩ = some (.int .u64 0) ∧ W.cell? ⟨w.heap.size + 1, 4, none⟩ = some (.string ByteArray.empty) ∧ W.cell? ⟨w.heap.size + 1, 5, none⟩ = some (.slice none 0 0))) := Lib.hid (fun W h => by
    have hX' := hX.below h (by omega)
    have hY' := hY.below h (by omega)
    exact ⟨⟨hX'.cell 0 (by simp), hX'.cell 1 (by simp), hX'.cell 2 (by simp), hX'.cell 3 (by simp), hX'.cell 4 (by simp), hX'.cell 5 (by simp)⟩, ⟨hY'.cell 0 (by simp), hY'.cell 1 (by simp), hY'.cell 2 (by simp), hY'.cell 3 (by simp), hY'.cell 4 (by simp), hY'.cell 5 (by simp)⟩⟩)
  have FIN : Hid (∀ W, Below (w.heap.size + 2) W0 W → Below w.heap.size w W) := Lib.hid (fun W h => hb0.trans (h.mono (by omega)))
  have B1 : Hid (∀ W, Below (w.heap.size + 2) W0 W → Calls Try.prog 31 #[.agg #[.int .i64 2, .bool n1, .slice a1 k1 c1, .int .u64 0, .string ByteArray.empty, .slice none 0 0]] W (InPost i W)) := Lib.hid (fun W h => by
    have hb := hb0.trans (h.mono (by omega))
    exact whole_any _ i W ((h1.below hb).more hb.size) hi)
  have B2 : Hid (∀ W, Below (w.heap.size + 2) W0 W → Calls Try.prog 31 #[.agg #[.int .i64 2, .bool n2, .slice a2 k2 c2, .int .u64 0, .string ByteArray.empty, .slice none 0 0]] W (InPost j W)) := Lib.hid (fun W h => by
    have hb := hb0.trans (h.mono (by omega))
    exact whole_any _ j W ((h2.below hb).more hb.size) hj)
  have HI := Lib.hid hi
  have HJ := Lib.hid hj
  clear h1 h2 hsz hb0 hX hY hi hj
  subst hW0
  go_enter Try.func19, Try.ntmps19
  go_upto_region 1 with fail
  go_cut [6, 7] from 8 to 16 (fun s6 s7 wx => s6 = .int .i64 (cmpI i j) ∧ s7 = Value.nilIface ∧ Hid (Below w.heap.size w wx))
  case first =>
    go_region_with (first
      | (go_at_call 31; (first | (with_reducible refine (B1.out _ HB.out).mono ?_) | (with_reducible refine (B1.out _ HD.out).mono ?_)); rintro e w3 ⟨v1, rfl, hp, hb⟩; (first | have HB := Lib.hid (STEP.out _ _ HB.out hb) | have HB := Lib.hid (STEP.out _ _ HD.out hb)); (try have P2 := Lib.hid ((P2.out.below hb).more hb.size)); obtain ⟨t1, q1, rfl⟩ := hp.form; have P1 := Lib.hid hp; obtain ⟨⟨p0, p1, p2, p3, p4, p5⟩, ⟨r0, r1, r2, r3, r4, r5⟩⟩ := KEEP.out _ HB.out; clear hp hb)
      | (go_at_call 31; (first | (with_reducible refine (B2.out _ HB.out).mono ?_) | (with_reducible refine (B2.out _ HD.out).mono ?_)); rintro e w3 ⟨v2, rfl, hp, hb⟩; (first | have HB := Lib.hid (STEP.out _ _ HB.out hb) | have HB := Lib.hid (STEP.out _ _ HD.out hb)); (try have P1 := Lib.hid ((P1.out.below hb).more hb.size)); obtain ⟨t2, q2, rfl⟩ := hp.form; have P2 := Lib.hid hp; obtain ⟨⟨p0, p1, p2, p3, p4, p5⟩, ⟨r0, r1, r2, r3, r4, r5⟩⟩ := KEEP.out _ HB.out; clear hp hb)
      | (go_at_call 40; refine (intCmp_any _ _ _ _ _ P1.out P2.out HI.out HJ.out).mono ?_; rintro e w5 ⟨rfl, hq⟩; have HQ := Lib.hid (FIN.out _ (STEP.out _ _ HB.out hq)); clear hq))
    all_goals
      go_wp2_with fail
      go_meet
      exact ⟨rfl, rfl, HQ⟩
  case rest =>
    obtain ⟨rfl, rfl, HQ⟩ := hcut
    clear B1 B2 FIN KEEP STEP HD HI HJ
    go_wp2_with fail
    go_quiet (fail)
    go_wp2_with fail
    go_ret2
    exact ⟨rfl, below_drewN HQ.out _⟩
end Go.Proofs.Ythnmkbdeoahiaaa
