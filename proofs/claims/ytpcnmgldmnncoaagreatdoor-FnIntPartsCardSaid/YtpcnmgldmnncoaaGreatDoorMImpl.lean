/- impl.IntDiv: of two Vals, the second one not 0. Printed by genimpldiv.py. impl.IntMod: of two Vals, the second one not 0. Printed by genimpldiv.py. -/
import Derived.Test.YtpcnmgldmnncoaaGreatDoorMWhole
import Derived.Test.YtpcnmgldmnncoaaGreatDoorStarDiv
import Derived.Test.YtpcnmgldmnncoaaGreatDoorStarSign
import Derived.Deep.RegionHeld3
import Derived.Test.YtpcnmgldmnncoaaGreatDoorStarMod
namespace Go.Proofs.YtpcnmgldmnncoaaGreatDoor
open Go.RowKit Dig
set_option linter.unusedVariables false
set_option linter.unusedSimpArgs false
set_option maxRecDepth 100000

set_option maxHeartbeats 3200000 in
theorem implDiv_any (i j : Int) (x y : Value) (w : World) (h1 : Va w w.heap.size x i) (h2 : Va w w.heap.size y j) (hi : i.natAbs + 1 < lim) (hj0 : j ≠ 0) (hj : j.natAbs < 18446744073709551616 ^ 39) (hr : (dvF i j).natAbs < lim) (hgl : 0 < w.heap.size) (hthr : w.cell? ⟨0, 0, none⟩ = some (.int .i64 40)) :
    Calls Tryz.prog 11 #[x, y] w (VaPost (dvF i j) w) := by
  obtain ⟨n1, a1, k1, c1, rfl⟩ := h1.parts
  obtain ⟨n2, a2, k2, c2, rfl⟩ := h2.parts
  obtain ⟨f1, f2, f3, f4, f5⟩ := valW_facts w [.int .i64 2, .bool n1, .slice a1 k1 c1, .int .u64 0, .string ByteArray.empty, .slice none 0 0] [.int .i64 2, .bool n2, .slice a2 k2 c2, .int .u64 0, .string ByteArray.empty, .slice none 0 0]
  obtain ⟨W0, hW0⟩ : ∃ W0, W0 = valW w [.int .i64 2, .bool n1, .slice a1 k1 c1, .int .u64 0, .string ByteArray.empty, .slice none 0 0] [.int .i64 2, .bool n2, .slice a2 k2 c2, .int .u64 0, .string ByteArray.empty, .slice none 0 0] := ⟨_, rfl⟩
  rw [← hW0] at f1 f2 f3 f4 f5
  have hjl : j.natAbs < lim := Nat.lt_of_lt_of_le hj (pow_le_lim 39 (by omega))
  have CW := Lib.hid (whole_any _ j W0 ((h2.below f2).more f2.size) hjl)
  have SG : Hid (∀ t2 q2 W, In W W.heap.size (.agg #[.int .i64 t2, .pointer q2]) j → Calls Tryz.prog 17 #[.agg #[.int .i64 t2, .pointer q2]] W fun e w' => ∃ z : Int, e = .returned (.int .i64 z) ∧ (z = 0 ↔ j = 0) ∧ Below W.heap.size W w') := Lib.hid (fun t2 q2 W h => starSign_any j t2 q2 W h hjl)
  have BASE : Hid (∀ w1 t2 q2, Below W0.heap.size W0 w1 → In w1 w1.heap.size (.agg #[.int .i64 t2, .pointer q2]) j → ∀ W1, W1 = w1.alloc (.cells #[.int .i64 t2, .pointer q2] 44) → In W1 W1.heap.size (.agg #[.int .i64 t2, .pointer q2]) j ∧ Below w.heap.size w W1 ∧ w.heap.size + 3 ≤ w1.heap.size ∧ w1.heap.size < W1.heap.size ∧ Blk W1 w.heap.size 28 [.int .i64 2, .bool n1, .slice a1 k1 c1, .int .u64 0, .string ByteArray.empty, .slice none 0 0] ∧ Blk W1 (w.heap.size + 1 + 1) 28 zeroVal ∧ Blk W1 w1.heap.size 44 [.int .i64 t2, .pointer q2]) := Lib.hid (by
    rintro w1 t2 q2 hb hin W1 rfl
    have hal : Below w1.heap.size w1 (w1.alloc (.cells #[.int .i64 t2, .pointer q2] 44)) := (Below.refl _ _).alloc (Nat.le_refl _) _
    have hs := hb.size
    exact ⟨(hin.below hal).more hal.size, (f2.trans (hb.mono (by omega))).trans (hal.mono (by omega)), by omega, by simp, (f3.below hb (by omega)).alloc _, (f5.below hb (by omega)).alloc _, Blk.new w1 _ _⟩)
  have H1 := Lib.hid h1
  obtain ⟨r0, r1, r2, r3, r4, r5⟩ := val_cells f4
  have r6 := f4.lt
  clear f1 f2 f3 f4 f5 h1 h2 hjl
  subst hW0
  unfold valW zeroVal at *
  go_enter Tryz.func11, Tryz.ntmps11
  go_wp2_with fail
  refine CW.out.mono ?_
  rintro e w1 ⟨v, rfl, hin, hb1⟩
  obtain ⟨t2, q2, rfl⟩ := hin.form
  obtain ⟨W1, hW1⟩ : ∃ W1, W1 = w1.alloc (.cells #[.int .i64 t2, .pointer q2] 44) := ⟨_, rfl⟩
  obtain ⟨g1, g2, g3, g4, g5, g6, g7⟩ := BASE.out w1 t2 q2 hb1 hin W1 hW1
  have SG1 := Lib.hid (SG.out t2 q2 W1 g1)
  obtain ⟨bz, hbz⟩ : ∃ bz, bz = w1.heap.size := ⟨_, rfl⟩
  rw [← hbz] at g3 g4 g7
  have hthr1 : W1.cell? ⟨0, 0, none⟩ = some (.int .i64 40) := (g2.cell (p := ⟨0, 0, none⟩) hgl).trans hthr
  have KEEP : Hid (∀ W, Below W1.heap.size W1 W → (W.cell? ⟨w.heap.size, 0, none⟩ = some (.int .i64 2) ∧ W.cell? ⟨w.heap.size, 1, none⟩ = some (.bool n1) ∧ W.cell? ⟨w.heap.size, 2, none⟩ = some (.slice a1 k1 c1) ∧ W.cell? ⟨w.heap.size, 3, none⟩ = some (.int .u64 0) ∧ W.cell? ⟨w.heap.size, 4, none⟩ = some (.string ByteArray.empty) ∧ W.cell? ⟨w.heap.size, 5, none⟩ = some (.slice none 0 0)) ∧ (W.cell? ⟨bz, 0, none⟩ = some (.int .i64 t2) ∧ W.cell? ⟨bz, 1, none⟩ = some (.pointer q2))) := Lib.hid (fun W h => ⟨val_cells (g5.below h g5.lt), (g7.below h g7.lt).cell 0 (by simp), (g7.below h g7.lt).cell 1 (by simp)⟩)
  have KEEPZ : Hid (∀ W, Below W1.heap.size W1 W → _) := Lib.hid (fun W h => zero_cells (g6.below h g6.lt))
  have START : Hid (∀ W, Below W1.heap.size W1 W → Sw W1 W1.heap.size i j none (some (.agg #[.int .i64 t2, .pointer q2])) W) := Lib.hid (fun W h => ⟨h, h.size, by simp, fun v hv => by injection hv with hv; subst hv; exact (g1.below h).more h.size⟩)
  have A1 : Hid (∀ o2 W, Sw W1 W1.heap.size i j none o2 W → _) := Lib.hid (fun o2 W s => s.whole1 H1.out g2 g2.size (by omega))
  have OPC : Hid (∀ v1 v2 W, Sw W1 W1.heap.size i j (some v1) (some v2) W → Calls Tryz.prog 22 #[v1, v2] W fun e w' => ∃ t q, e = .returned (.agg #[.int .i64 t, .pointer q]) ∧ In w' w'.heap.size (.agg #[.int .i64 t, .pointer q]) (dvF i j) ∧ Below W1.heap.size W1 w') := Lib.hid (by
    rintro v1 v2 W ⟨s1, s2, s3, s4⟩
    have hgW : W.cell? ⟨0, 0, none⟩ = some (.int .i64 40) := (s1.cell (p := ⟨0, 0, none⟩) (lt_of_cell hthr1)).trans hthr1
    refine (intDiv_any i j v1 v2 W (s3 _ rfl) (s4 _ rfl) hi hj0 hj (lt_of_cell hgW) hgW).mono ?_
    rintro e w' ⟨v, rfl, hin, hb⟩
    obtain ⟨t, q, rfl⟩ := hin.form
    exact ⟨t, q, rfl, hin, s1.trans (hb.mono s2)⟩)
  have NUM : Hid (∀ v W, Below W1.heap.size W1 W → In W W.heap.size v (dvF i j) → Calls Tryz.prog 18 #[v] W fun e w' => ∃ (neg : Bool) (a : Option Addr) (k c : Nat), e = .returned (.agg #[.int .i64 2, .bool neg, .slice a k c, .int .u64 0, .string ByteArray.empty, .slice none 0 0]) ∧ Below W1.heap.size W1 w' ∧
      VaPost (dvF i j) w (.returned (.agg #[.int .i64 2, .bool neg, .slice a k c, .int .u64 0, .string ByteArray.empty, .slice none 0 0])) ((((((w'.setCell ⟨w.heap.size + 1 + 1, 0, none⟩ (.int .i64 2)).setCell ⟨w.heap.size + 1 + 1, 1, none⟩ (.bool neg)).setCell ⟨w.heap.size + 1 + 1, 2, none⟩ (.slice a k c)).setCell ⟨w.heap.size + 1 + 1, 3, none⟩ (.int .u64 0)).setCell ⟨w.heap.size + 1 + 1, 4, none⟩ (.string ByteArray.empty)).setCell ⟨w.heap.size + 1 + 1, 5, none⟩ (.slice none 0 0)) ∧ ((fun w' => (w'.cell? ⟨w.heap.size, 0, none⟩ = some (.int .i64 2) ∧ w'.cell? ⟨w.heap.size, 1, none⟩ = some (.bool n1) ∧ w'.cell? ⟨w.heap.size, 2, none⟩ = some (.slice a1 k1 c1) ∧ w'.cell? ⟨w.heap.size, 3, none⟩ = some (.int .u64 0) ∧ w'.cell? ⟨w.heap.size, 4, none⟩ = some (.string ByteArray.empty) ∧ w'.cell? ⟨w.heap.size, 5, none⟩ = some (.slice none 0 0)) ∧ (w'.cell? ⟨bz, 0, none⟩ = some (.int .i64 t2) ∧ w'.cell? ⟨bz, 1, none⟩ = some (.pointer q2))) ((((((w'.setCell ⟨w.heap.size + 1 + 1, 0, none⟩ (.int .i64 2)).setCell ⟨w.heap.size + 1 + 1, 1, none⟩ (.bool neg)).setCell ⟨w.heap.size + 1 + 1, 2, none⟩ (.slice a k c)).setCell ⟨w.heap.size + 1 + 1, 3, none⟩ (.int .u64 0)).setCell ⟨w.heap.size + 1 + 1, 4, none⟩ (.string ByteArray.empty)).setCell ⟨w.heap.size + 1 + 1, 5, none⟩ (.slice none 0 0)))) := Lib.hid (by
    intro v W hb hin
    refine (number_any v _ W hin hr).mono ?_
    intro e w' hp
    obtain ⟨neg, a, k, c, rfl, hneg, hy, hb2⟩ := hp.parts
    have hb3 : Below W1.heap.size W1 w' := hb.trans (hb2.mono hb.size)
    have gz := (g7.below hb3 g7.lt).far6 (z := w.heap.size + 1 + 1) (by omega) (.int .i64 2) (.bool neg) (.slice a k c) (.int .u64 0) (.string ByteArray.empty) (.slice none 0 0)
    exact ⟨neg, a, k, c, rfl, hb3, Va.store (w := w) hy hneg (g6.below hb3 g6.lt) (g2.trans (hb3.mono g2.size)) (by omega), val_cells ((g5.below hb3 g5.lt).far6 (by omega) _ _ _ _ _ _), gz.cell 0 (by simp), gz.cell 1 (by simp)⟩)
  have HJ0 := Lib.hid hj0
  have HW1 := Lib.hid hW1
  clear hin hb1 BASE CW SG H1 hi hj0 hj hr hgl hthr hthr1 g1 g2 g5 g6 g7 r0 r1 r2 r3 r4 r5 r6
  go_upto_region 2 with fail
  rw [← hW1, ← hbz]
  obtain ⟨⟨p0, p1, p2, p3, p4, p5⟩, m0, m1⟩ := KEEP.out W1 (Below.refl _ _)
  clear hW1 hbz
  go_wp2_with fail
  with_reducible refine SG1.out.mono ?_
  rintro e w2 ⟨zz, rfl, hzz, hb2⟩
  have hz0 : (zz == 0) = false := by rw [beq_eq_false_iff_ne]; exact fun h => HJ0.out (hzz.1 h)
  have HS := Lib.hid (START.out w2 hb2)
  clear hzz hb2 SG1 START p0 p1 p2 p3 p4 p5 m0 m1
  obtain ⟨⟨p0, p1, p2, p3, p4, p5⟩, m0, m1⟩ := KEEP.out w2 HS.out.below
  go_wp2_with fail
  go_region_with (first
    | (go_at_call 16; (with_reducible refine (A1.out _ _ (by first | exact HS.out | (with_unfolding_all exact HS.out.drew))).mono ?_); rintro e w3 ⟨t1, q1, rfl, hs⟩; have HS := Lib.hid hs; obtain ⟨⟨p0, p1, p2, p3, p4, p5⟩, m0, m1⟩ := KEEP.out _ hs.below; clear hs)
    | (go_at_call 22; refine (OPC.out _ _ _ HS.out).mono ?_; rintro e w5 ⟨t3, q3, rfl, hin, hb⟩; have HG := Lib.hid hin; have HB := Lib.hid hb; obtain ⟨⟨p0, p1, p2, p3, p4, p5⟩, m0, m1⟩ := KEEP.out _ hb; clear hin hb)
    | (go_at_call 18; refine (NUM.out _ _ HB.out HG.out).mono ?_; rintro e w6 ⟨neg, a, k, c, rfl, hb, hf, hk⟩; have F := Lib.hid hf; have FK := Lib.hid hk; clear hk; obtain ⟨⟨p0, p1, p2, p3, p4, p5⟩, m0, m1⟩ := KEEP.out _ hb; obtain ⟨⟨z0, z1, z2, z3, z4, z5⟩, g0, g1, g2, g3, g4, g5⟩ := KEEPZ.out _ hb; clear hb hf))
  all_goals
    go_wp2_with fail
    refine bodyPost_ret (v := .agg #[.int .i64 2, .bool neg, .slice a k c, .int .u64 0, .string ByteArray.empty, .slice none 0 0]) (by simp [results, Tryz.results11, go_sem, z0, z1, z2, z3, z4, z5]) rfl ?_
    exact F.out
end Go.Proofs.YtpcnmgldmnncoaaGreatDoor

namespace Go.Proofs.YtpcnmgldmnncoaaGreatDoor
open Go.RowKit Dig
set_option linter.unusedVariables false
set_option linter.unusedSimpArgs false
set_option maxRecDepth 100000

set_option maxHeartbeats 3200000 in
theorem implMod_any (i j : Int) (x y : Value) (w : World) (h1 : Va w w.heap.size x i) (h2 : Va w w.heap.size y j) (hi : i.natAbs + 1 < lim) (hj0 : j ≠ 0) (hj : j.natAbs < 18446744073709551616 ^ 39) (hr : (mdF i j).natAbs < lim) (hgl : 0 < w.heap.size) (hthr : w.cell? ⟨0, 0, none⟩ = some (.int .i64 40)) :
    Calls Tryz.prog 8 #[x, y] w (VaPost (mdF i j) w) := by
  obtain ⟨n1, a1, k1, c1, rfl⟩ := h1.parts
  obtain ⟨n2, a2, k2, c2, rfl⟩ := h2.parts
  obtain ⟨f1, f2, f3, f4, f5⟩ := valW_facts w [.int .i64 2, .bool n1, .slice a1 k1 c1, .int .u64 0, .string ByteArray.empty, .slice none 0 0] [.int .i64 2, .bool n2, .slice a2 k2 c2, .int .u64 0, .string ByteArray.empty, .slice none 0 0]
  obtain ⟨W0, hW0⟩ : ∃ W0, W0 = valW w [.int .i64 2, .bool n1, .slice a1 k1 c1, .int .u64 0, .string ByteArray.empty, .slice none 0 0] [.int .i64 2, .bool n2, .slice a2 k2 c2, .int .u64 0, .string ByteArray.empty, .slice none 0 0] := ⟨_, rfl⟩
  rw [← hW0] at f1 f2 f3 f4 f5
  have hjl : j.natAbs < lim := Nat.lt_of_lt_of_le hj (pow_le_lim 39 (by omega))
  have CW := Lib.hid (whole_any _ j W0 ((h2.below f2).more f2.size) hjl)
  have SG : Hid (∀ t2 q2 W, In W W.heap.size (.agg #[.int .i64 t2, .pointer q2]) j → Calls Tryz.prog 17 #[.agg #[.int .i64 t2, .pointer q2]] W fun e w' => ∃ z : Int, e = .returned (.int .i64 z) ∧ (z = 0 ↔ j = 0) ∧ Below W.heap.size W w') := Lib.hid (fun t2 q2 W h => starSign_any j t2 q2 W h hjl)
  have BASE : Hid (∀ w1 t2 q2, Below W0.heap.size W0 w1 → In w1 w1.heap.size (.agg #[.int .i64 t2, .pointer q2]) j → ∀ W1, W1 = w1.alloc (.cells #[.int .i64 t2, .pointer q2] 44) → In W1 W1.heap.size (.agg #[.int .i64 t2, .pointer q2]) j ∧ Below w.heap.size w W1 ∧ w.heap.size + 3 ≤ w1.heap.size ∧ w1.heap.size < W1.heap.size ∧ Blk W1 w.heap.size 28 [.int .i64 2, .bool n1, .slice a1 k1 c1, .int .u64 0, .string ByteArray.empty, .slice none 0 0] ∧ Blk W1 (w.heap.size + 1 + 1) 28 zeroVal ∧ Blk W1 w1.heap.size 44 [.int .i64 t2, .pointer q2]) := Lib.hid (by
    rintro w1 t2 q2 hb hin W1 rfl
    have hal : Below w1.heap.size w1 (w1.alloc (.cells #[.int .i64 t2, .pointer q2] 44)) := (Below.refl _ _).alloc (Nat.le_refl _) _
    have hs := hb.size
    exact ⟨(hin.below hal).more hal.size, (f2.trans (hb.mono (by omega))).trans (hal.mono (by omega)), by omega, by simp, (f3.below hb (by omega)).alloc _, (f5.below hb (by omega)).alloc _, Blk.new w1 _ _⟩)
  have H1 := Lib.hid h1
  obtain ⟨r0, r1, r2, r3, r4, r5⟩ := val_cells f4
  have r6 := f4.lt
  clear f1 f2 f3 f4 f5 h1 h2 hjl
  subst hW0
  unfold valW zeroVal at *
  go_enter Tryz.func8, Tryz.ntmps8
  go_wp2_with fail
  refine CW.out.mono ?_
  rintro e w1 ⟨v, rfl, hin, hb1⟩
  obtain ⟨t2, q2, rfl⟩ := hin.form
  obtain ⟨W1, hW1⟩ : ∃ W1, W1 = w1.alloc (.cells #[.int .i64 t2, .pointer q2] 44) := ⟨_, rfl⟩
  obtain ⟨g1, g2, g3, g4, g5, g6, g7⟩ := BASE.out w1 t2 q2 hb1 hin W1 hW1
  have SG1 := Lib.hid (SG.out t2 q2 W1 g1)
  obtain ⟨bz, hbz⟩ : ∃ bz, bz = w1.heap.size := ⟨_, rfl⟩
  rw [← hbz] at g3 g4 g7
  have hthr1 : W1.cell? ⟨0, 0, none⟩ = some (.int .i64 40) := (g2.cell (p := ⟨0, 0, none⟩) hgl).trans hthr
  have KEEP : Hid (∀ W, Below W1.heap.size W1 W → (W.cell? ⟨w.heap.size, 0, none⟩ = some (.int .i64 2) ∧ W.cell? ⟨w.heap.size, 1, none⟩ = some (.bool n1) ∧ W.cell? ⟨w.heap.size, 2, none⟩ = some (.slice a1 k1 c1) ∧ W.cell? ⟨w.heap.size, 3, none⟩ = some (.int .u64 0) ∧ W.cell? ⟨w.heap.size, 4, none⟩ = some (.string ByteArray.empty) ∧ W.cell? ⟨w.heap.size, 5, none⟩ = some (.slice none 0 0)) ∧ (W.cell? ⟨bz, 0, none⟩ = some (.int .i64 t2) ∧ W.cell? ⟨bz, 1, none⟩ = some (.pointer q2))) := Lib.hid (fun W h => ⟨val_cells (g5.below h g5.lt), (g7.below h g7.lt).cell 0 (by simp), (g7.below h g7.lt).cell 1 (by simp)⟩)
  have KEEPZ : Hid (∀ W, Below W1.heap.size W1 W → _) := Lib.hid (fun W h => zero_cells (g6.below h g6.lt))
  have START : Hid (∀ W, Below W1.heap.size W1 W → Sw W1 W1.heap.size i j none (some (.agg #[.int .i64 t2, .pointer q2])) W) := Lib.hid (fun W h => ⟨h, h.size, by simp, fun v hv => by injection hv with hv; subst hv; exact (g1.below h).more h.size⟩)
  have A1 : Hid (∀ o2 W, Sw W1 W1.heap.size i j none o2 W → _) := Lib.hid (fun o2 W s => s.whole1 H1.out g2 g2.size (by omega))
  have OPC : Hid (∀ v1 v2 W, Sw W1 W1.heap.size i j (some v1) (some v2) W → Calls Tryz.prog 19 #[v1, v2] W fun e w' => ∃ t q, e = .returned (.agg #[.int .i64 t, .pointer q]) ∧ In w' w'.heap.size (.agg #[.int .i64 t, .pointer q]) (mdF i j) ∧ Below W1.heap.size W1 w') := Lib.hid (by
    rintro v1 v2 W ⟨s1, s2, s3, s4⟩
    have hgW : W.cell? ⟨0, 0, none⟩ = some (.int .i64 40) := (s1.cell (p := ⟨0, 0, none⟩) (lt_of_cell hthr1)).trans hthr1
    refine (intMod_any i j v1 v2 W (s3 _ rfl) (s4 _ rfl) hi hj0 hj (lt_of_cell hgW) hgW).mono ?_
    rintro e w' ⟨v, rfl, hin, hb⟩
    obtain ⟨t, q, rfl⟩ := hin.form
    exact ⟨t, q, rfl, hin, s1.trans (hb.mono s2)⟩)
  have NUM : Hid (∀ v W, Below W1.heap.size W1 W → In W W.heap.size v (mdF i j) → Calls Tryz.prog 18 #[v] W fun e w' => ∃ (neg : Bool) (a : Option Addr) (k c : Nat), e = .returned (.agg #[.int .i64 2, .bool neg, .slice a k c, .int .u64 0, .string ByteArray.empty, .slice none 0 0]) ∧ Below W1.heap.size W1 w' ∧
      VaPost (mdF i j) w (.returned (.agg #[.int .i64 2, .bool neg, .slice a k c, .int .u64 0, .string ByteArray.empty, .slice none 0 0])) ((((((w'.setCell ⟨w.heap.size + 1 + 1, 0, none⟩ (.int .i64 2)).setCell ⟨w.heap.size + 1 + 1, 1, none⟩ (.bool neg)).setCell ⟨w.heap.size + 1 + 1, 2, none⟩ (.slice a k c)).setCell ⟨w.heap.size + 1 + 1, 3, none⟩ (.int .u64 0)).setCell ⟨w.heap.size + 1 + 1, 4, none⟩ (.string ByteArray.empty)).setCell ⟨w.heap.size + 1 + 1, 5, none⟩ (.slice none 0 0)) ∧ ((fun w' => (w'.cell? ⟨w.heap.size, 0, none⟩ = some (.int .i64 2) ∧ w'.cell? ⟨w.heap.size, 1, none⟩ = some (.bool n1) ∧ w'.cell? ⟨w.heap.size, 2, none⟩ = some (.slice a1 k1 c1) ∧ w'.cell? ⟨w.heap.size, 3, none⟩ = some (.int .u64 0) ∧ w'.cell? ⟨w.heap.size, 4, none⟩ = some (.string ByteArray.empty) ∧ w'.cell? ⟨w.heap.size, 5, none⟩ = some (.slice none 0 0)) ∧ (w'.cell? ⟨bz, 0, none⟩ = some (.int .i64 t2) ∧ w'.cell? ⟨bz, 1, none⟩ = some (.pointer q2))) ((((((w'.setCell ⟨w.heap.size + 1 + 1, 0, none⟩ (.int .i64 2)).setCell ⟨w.heap.size + 1 + 1, 1, none⟩ (.bool neg)).setCell ⟨w.heap.size + 1 + 1, 2, none⟩ (.slice a k c)).setCell ⟨w.heap.size + 1 + 1, 3, none⟩ (.int .u64 0)).setCell ⟨w.heap.size + 1 + 1, 4, none⟩ (.string ByteArray.empty)).setCell ⟨w.heap.size + 1 + 1, 5, none⟩ (.slice none 0 0)))) := Lib.hid (by
    intro v W hb hin
    refine (number_any v _ W hin hr).mono ?_
    intro e w' hp
    obtain ⟨neg, a, k, c, rfl, hneg, hy, hb2⟩ := hp.parts
    have hb3 : Below W1.heap.size W1 w' := hb.trans (hb2.mono hb.size)
    have gz := (g7.below hb3 g7.lt).far6 (z := w.heap.size + 1 + 1) (by omega) (.int .i64 2) (.bool neg) (.slice a k c) (.int .u64 0) (.string ByteArray.empty) (.slice none 0 0)
    exact ⟨neg, a, k, c, rfl, hb3, Va.store (w := w) hy hneg (g6.below hb3 g6.lt) (g2.trans (hb3.mono g2.size)) (by omega), val_cells ((g5.below hb3 g5.lt).far6 (by omega) _ _ _ _ _ _), gz.cell 0 (by simp), gz.cell 1 (by simp)⟩)
  have HJ0 := Lib.hid hj0
  have HW1 := Lib.hid hW1
  clear hin hb1 BASE CW SG H1 hi hj0 hj hr hgl hthr hthr1 g1 g2 g5 g6 g7 r0 r1 r2 r3 r4 r5 r6
  go_upto_region 2 with fail
  rw [← hW1, ← hbz]
  obtain ⟨⟨p0, p1, p2, p3, p4, p5⟩, m0, m1⟩ := KEEP.out W1 (Below.refl _ _)
  clear hW1 hbz
  go_wp2_with fail
  with_reducible refine SG1.out.mono ?_
  rintro e w2 ⟨zz, rfl, hzz, hb2⟩
  have hz0 : (zz == 0) = false := by rw [beq_eq_false_iff_ne]; exact fun h => HJ0.out (hzz.1 h)
  have HS := Lib.hid (START.out w2 hb2)
  clear hzz hb2 SG1 START p0 p1 p2 p3 p4 p5 m0 m1
  obtain ⟨⟨p0, p1, p2, p3, p4, p5⟩, m0, m1⟩ := KEEP.out w2 HS.out.below
  go_wp2_with fail
  go_region_with (first
    | (go_at_call 16; (with_reducible refine (A1.out _ _ (by first | exact HS.out | (with_unfolding_all exact HS.out.drew))).mono ?_); rintro e w3 ⟨t1, q1, rfl, hs⟩; have HS := Lib.hid hs; obtain ⟨⟨p0, p1, p2, p3, p4, p5⟩, m0, m1⟩ := KEEP.out _ hs.below; clear hs)
    | (go_at_call 19; refine (OPC.out _ _ _ HS.out).mono ?_; rintro e w5 ⟨t3, q3, rfl, hin, hb⟩; have HG := Lib.hid hin; have HB := Lib.hid hb; obtain ⟨⟨p0, p1, p2, p3, p4, p5⟩, m0, m1⟩ := KEEP.out _ hb; clear hin hb)
    | (go_at_call 18; refine (NUM.out _ _ HB.out HG.out).mono ?_; rintro e w6 ⟨neg, a, k, c, rfl, hb, hf, hk⟩; have F := Lib.hid hf; have FK := Lib.hid hk; clear hk; obtain ⟨⟨p0, p1, p2, p3, p4, p5⟩, m0, m1⟩ := KEEP.out _ hb; obtain ⟨⟨z0, z1, z2, z3, z4, z5⟩, g0, g1, g2, g3, g4, g5⟩ := KEEPZ.out _ hb; clear hb hf))
  all_goals
    go_wp2_with fail
    refine bodyPost_ret (v := .agg #[.int .i64 2, .bool neg, .slice a k c, .int .u64 0, .string ByteArray.empty, .slice none 0 0]) (by simp [results, Tryz.results8, go_sem, z0, z1, z2, z3, z4, z5]) rfl ?_
    exact F.out
end Go.Proofs.YtpcnmgldmnncoaaGreatDoor
