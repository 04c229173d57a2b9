/- impl.IntMul: of two Vals. Printed by genimplmul.py out of XImplAdd. -/
import Derived.Test.YtpcnmgldmnncoaaGreatDoorMWhole
import Derived.Test.YtpcnmgldmnncoaaGreatDoorStarMul
import Derived.Test.YtpcnmgldmnncoaaGreatDoorFresh
import Derived.Deep.RegionHeld3
namespace Go.Proofs.YtpcnmgldmnncoaaGreatDoor
open Go.RowKit Dig
set_option linter.unusedVariables false
set_option linter.unusedSimpArgs false
set_option maxRecDepth 100000

/-- which of the two operands are integers of the package by now; their pointers are not the same -/
def SwM (W0 : World) (h : Nat) (i j : Int) (o1 o2 : Option Value) (W : World) : Prop :=
  Sw W0 h i j o1 o2 W ∧ ∀ s t b, o1 = some (.agg #[.int .i64 s, .pointer (some ⟨b, 0, none⟩)]) → o2 ≠ some (.agg #[.int .i64 t, .pointer (some ⟨b, 0, none⟩)])
theorem in_lt {w : World} {B b : Nat} {s i : Int} (h : In w B (.agg #[.int .i64 s, .pointer (some ⟨b, 0, none⟩)]) i) : b < w.heap.size := by
  obtain ⟨s', p, hv, h⟩ := h
  simp only [Value.agg.injEq, Array.mk.injEq, List.cons.injEq, Value.int.injEq, Value.pointer.injEq, true_and, and_true] at hv
  have hp : some (⟨b, 0, none⟩ : Addr) = p := hv.2
  rcases h with ⟨h, _⟩ | ⟨_, _, h⟩
  · rw [h] at hp; cases hp
  · rw [← hp] at h; exact h.lt
section
variable {W0 W : World} {h : Nat} {i j : Int} {o1 o2 : Option Value}
theorem SwM.below (s : SwM W0 h i j o1 o2 W) : Below h W0 W := s.1.1
theorem SwM.drew (s : SwM W0 h i j o1 o2 W) : SwM W0 h i j o1 o2 W.drew := ⟨s.1.drew, s.2⟩
theorem SwM.start (hh : h ≤ W.heap.size) (hb : Below h W0 W) : SwM W0 h i j none none W := ⟨Sw.start hh hb, by simp⟩
theorem SwM.whole1 {v : Value} {B : Nat} {w : World} (s : SwM W0 h i j none o2 W) (hv : Va w B v i) (hw : Below B w W0) (hB : B ≤ h) (hl : i.natAbs < lim) :
    Calls Tryz.prog 16 #[v] W fun e w' => ∃ t q, e = .returned (.agg #[.int .i64 t, .pointer q]) ∧ SwM W0 h i j (some (.agg #[.int .i64 t, .pointer q])) o2 w' := by
  obtain ⟨⟨h1, h2, h3, h4⟩, _⟩ := s
  refine (whole_fresh v i W ((hv.below (hw.trans (h1.mono hB))).more (Nat.le_trans hB h2)) hl).mono ?_
  rintro e w' ⟨⟨v, rfl, hin, hb⟩, hfr⟩
  obtain ⟨t, q, rfl⟩ := hin.form
  refine ⟨t, q, rfl, ⟨h1.trans (hb.mono h2), Nat.le_trans h2 hb.size, (fun v hv => by injection hv with hv; subst hv; exact hin), fun v hv => ((h4 v hv).below hb).more hb.size⟩, ?_⟩
  intro s t' b e1 e2
  injection e1 with e1
  have hge := hfr s b (by rw [e1])
  have := in_lt (h4 _ e2)
  omega
theorem SwM.whole2 {v : Value} {B : Nat} {w : World} (s : SwM W0 h i j o1 none W) (hv : Va w B v j) (hw : Below B w W0) (hB : B ≤ h) (hl : j.natAbs < lim) :
    Calls Tryz.prog 16 #[v] W fun e w' => ∃ t q, e = .returned (.agg #[.int .i64 t, .pointer q]) ∧ SwM W0 h i j o1 (some (.agg #[.int .i64 t, .pointer q])) w' := by
  obtain ⟨⟨h1, h2, h3, h4⟩, _⟩ := s
  refine (whole_fresh v j W ((hv.below (hw.trans (h1.mono hB))).more (Nat.le_trans hB h2)) hl).mono ?_
  rintro e w' ⟨⟨v, rfl, hin, hb⟩, hfr⟩
  obtain ⟨t, q, rfl⟩ := hin.form
  refine ⟨t, q, rfl, ⟨h1.trans (hb.mono h2), Nat.le_trans h2 hb.size, fun v hv => ((h3 v hv).below hb).more hb.size, (fun v hv => by injection hv with hv; subst hv; exact hin)⟩, ?_⟩
  intro s t' b e1 e2
  injection e2 with e2
  have hge := hfr t' b (by rw [e2])
  have := in_lt (h3 _ e1)
  omega
end
set_option maxHeartbeats 3200000 in
theorem implMul_any (i j : Int) (x y : Value) (w : World) (h1 : Va w w.heap.size x i) (h2 : Va w w.heap.size y j) (hi : i.natAbs < lim) (hj : j.natAbs < lim) (hr : (i * j).natAbs < lim) (h40 : i.natAbs < 18446744073709551616 ^ 39 ∨ j.natAbs < 18446744073709551616 ^ 39) (hgl : 3 < w.heap.size) (hthr : w.cell? ⟨3, 0, none⟩ = some (.int .i64 40)) :
    Calls Tryz.prog 10 #[x, y] w (VaPost (i * j) w) := by
  obtain ⟨n1, a1, k1, c1, rfl⟩ := h1.parts
  obtain ⟨n2, a2, k2, c2, rfl⟩ := h2.parts
  obtain ⟨f1, f2, f3, f4, f5⟩ := valW_facts w [.int .i64 2, .bool n1, .slice a1 k1 c1, .int .u64 0, .string ByteArray.empty, .slice none 0 0] [.int .i64 2, .bool n2, .slice a2 k2 c2, .int .u64 0, .string ByteArray.empty, .slice none 0 0]
  obtain ⟨W0, hW0⟩ : ∃ W0, W0 = valW w [.int .i64 2, .bool n1, .slice a1 k1 c1, .int .u64 0, .string ByteArray.empty, .slice none 0 0] [.int .i64 2, .bool n2, .slice a2 k2 c2, .int .u64 0, .string ByteArray.empty, .slice none 0 0] := ⟨_, rfl⟩
  rw [← hW0] at f1 f2 f3 f4 f5
  have KEEP : Hid (∀ W, Below (w.heap.size + 3) W0 W → _ ∧ _) := Lib.hid (fun W h => ⟨val_cells (f3.below h (by omega)), val_cells (f4.below h (by omega))⟩)
  have KEEPZ : Hid (∀ W, Below (w.heap.size + 3) W0 W → _) := Lib.hid (fun W h => zero_cells (f5.below h (by omega)))
  have HS : Hid (SwM W0 (w.heap.size + 3) i j none none W0) := Lib.hid (SwM.start (by omega) (Below.refl _ _))
  have A1 : Hid (∀ o2 W, SwM W0 (w.heap.size + 3) i j none o2 W → _) := Lib.hid (fun o2 W s => s.whole1 h1 f2 (by omega) hi)
  have A2 : Hid (∀ o1 W, SwM W0 (w.heap.size + 3) i j o1 none W → _) := Lib.hid (fun o1 W s => s.whole2 h2 f2 (by omega) hj)
  have OPC : Hid (∀ v1 v2 W, SwM W0 (w.heap.size + 3) i j (some v1) (some v2) W → Calls Tryz.prog 21 #[v1, v2] W fun e w' => ∃ t q, e = .returned (.agg #[.int .i64 t, .pointer q]) ∧ In w' w'.heap.size (.agg #[.int .i64 t, .pointer q]) (i * j) ∧ Below (w.heap.size + 3) W0 w') := Lib.hid (by
    rintro v1 v2 W ⟨⟨s1, s2, s3, s4⟩, s5⟩
    have hgW : W.cell? ⟨3, 0, none⟩ = some (.int .i64 40) := (s1.cell (p := ⟨3, 0, none⟩) (show 3 < w.heap.size + 3 by omega)).trans ((f2.cell (p := ⟨3, 0, none⟩) hgl).trans hthr)
    refine (intMul_any i j v1 v2 W (s3 _ rfl) (s4 _ rfl) hi hj hr (fun s t b e1 e2 => s5 s t b (by rw [e1]) (by rw [e2])) h40 (lt_of_cell hgW) hgW).mono ?_
    rintro e w' ⟨v, rfl, hin, hb⟩
    obtain ⟨t, q, rfl⟩ := hin.form
    exact ⟨t, q, rfl, hin, s1.trans (hb.mono s2)⟩)
  have NUM : Hid (∀ v W, Below (w.heap.size + 3) W0 W → In W W.heap.size v (i * j) → Calls Tryz.prog 18 #[v] W fun e w' => ∃ (neg : Bool) (a : Option Addr) (k c : Nat), e = .returned (.agg #[.int .i64 2, .bool neg, .slice a k c, .int .u64 0, .string ByteArray.empty, .slice none 0 0]) ∧ Below (w.heap.size + 3) W0 w' ∧
      VaPost (i * j) w (.returned (.agg #[.int .i64 2, .bool neg, .slice a k c, .int .u64 0, .string ByteArray.empty, .slice none 0 0])) ((((((w'.setCell ⟨w.heap.size + 1 + 1, 0, none⟩ (.int .i64 2)).setCell ⟨w.heap.size + 1 + 1, 1, none⟩ (.bool neg)).setCell ⟨w.heap.size + 1 + 1, 2, none⟩ (.slice a k c)).setCell ⟨w.heap.size + 1 + 1, 3, none⟩ (.int .u64 0)).setCell ⟨w.heap.size + 1 + 1, 4, none⟩ (.string ByteArray.empty)).setCell ⟨w.heap.size + 1 + 1, 5, none⟩ (.slice none 0 0)) ∧ ((fun w' => (w'.cell? ⟨w.heap.size, 0, none⟩ = some (.int .i64 2) ∧ w'.cell? ⟨w.heap.size, 1, none⟩ = some (.bool n1) ∧ w'.cell? ⟨w.heap.size, 2, none⟩ = some (.slice a1 k1 c1) ∧ w'.cell? ⟨w.heap.size, 3, none⟩ = some (.int .u64 0) ∧ w'.cell? ⟨w.heap.size, 4, none⟩ = some (.string ByteArray.empty) ∧ w'.cell? ⟨w.heap.size, 5, none⟩ = some (.slice none 0 0)) ∧ (w'.cell? ⟨w.heap.size + 1, 0, none⟩ = some (.int .i64 2) ∧ w'.cell? ⟨w.heap.size + 1, 1, none⟩ = some (.bool n2) ∧ w'.cell? ⟨w.heap.size + 1, 2, none⟩ = some (.slice a2 k2 c2) ∧ w'.cell? ⟨w.heap.size + 1, 3, none⟩ = some (.int .u64 0) ∧ w'.cell? ⟨w.heap.size + 1, 4, none⟩ = some (.string ByteArray.empty) ∧ w'.cell? ⟨w.heap.size + 1, 5, none⟩ = some (.slice none 0 0))) ((((((w'.setCell ⟨w.heap.size + 1 + 1, 0, none⟩ (.int .i64 2)).setCell ⟨w.heap.size + 1 + 1, 1, none⟩ (.bool neg)).setCell ⟨w.heap.size + 1 + 1, 2, none⟩ (.slice a k c)).setCell ⟨w.heap.size + 1 + 1, 3, none⟩ (.int .u64 0)).setCell ⟨w.heap.size + 1 + 1, 4, none⟩ (.string ByteArray.empty)).setCell ⟨w.heap.size + 1 + 1, 5, none⟩ (.slice none 0 0)))) := Lib.hid (by
    intro v W hb hin
    refine (number_any v _ W hin hr).mono ?_
    intro e w' hp
    obtain ⟨neg, a, k, c, rfl, hneg, hy, hb2⟩ := hp.parts
    have hb3 : Below (w.heap.size + 3) W0 w' := hb.trans (hb2.mono (by have := hb.size; omega))
    exact ⟨neg, a, k, c, rfl, hb3, Va.store (w := w) hy hneg (f5.below hb3 (by omega)) (f2.trans (hb3.mono (by omega))) (by omega), val_cells ((f3.below hb3 (by omega)).far6 (by omega) _ _ _ _ _ _), val_cells ((f4.below hb3 (by omega)).far6 (by omega) _ _ _ _ _ _)⟩)
  clear f1 f2 f3 f4 f5 h1 h2 hi hj hr h40 hgl hthr
  subst hW0
  unfold valW zeroVal at *
  obtain ⟨⟨p0, p1, p2, p3, p4, p5⟩, ⟨r0, r1, r2, r3, r4, r5⟩⟩ := KEEP.out _ HS.out.below
  go_enter Tryz.func10, Tryz.ntmps10
  go_wp2_with fail
  go_region_with (first
    | (go_at_call 16; (with_reducible refine (A1.out _ _ (by first | exact HS.out | (with_unfolding_all exact HS.out.drew))).mono ?_); rintro e w3 ⟨t1, q1, rfl, hs⟩; have HS := Lib.hid hs; obtain ⟨⟨p0, p1, p2, p3, p4, p5⟩, ⟨r0, r1, r2, r3, r4, r5⟩⟩ := KEEP.out _ hs.below; clear hs)
    | (go_at_call 16; (with_reducible refine (A2.out _ _ (by first | exact HS.out | (with_unfolding_all exact HS.out.drew))).mono ?_); rintro e w4 ⟨t2, q2, rfl, hs⟩; have HS := Lib.hid hs; obtain ⟨⟨p0, p1, p2, p3, p4, p5⟩, ⟨r0, r1, r2, r3, r4, r5⟩⟩ := KEEP.out _ hs.below; clear hs)
    | (go_at_call 21; refine (OPC.out _ _ _ HS.out).mono ?_; rintro e w5 ⟨t3, q3, rfl, hin, hb⟩; have HG := Lib.hid hin; have HB := Lib.hid hb; obtain ⟨⟨p0, p1, p2, p3, p4, p5⟩, ⟨r0, r1, r2, r3, r4, r5⟩⟩ := KEEP.out _ hb; clear hin hb)
    | (go_at_call 18; refine (NUM.out _ _ HB.out HG.out).mono ?_; rintro e w6 ⟨neg, a, k, c, rfl, hb, hf, hk⟩; have F := Lib.hid hf; have FK := Lib.hid hk; clear hk; obtain ⟨⟨p0, p1, p2, p3, p4, p5⟩, ⟨r0, r1, r2, r3, r4, r5⟩⟩ := KEEP.out _ hb; obtain ⟨⟨z0, z1, z2, z3, z4, z5⟩, g0, g1, g2, g3, g4, g5⟩ := KEEPZ.out _ hb; clear hb hf))
  all_goals
    go_wp2_with fail
    refine bodyPost_ret (v := .agg #[.int .i64 2, .bool neg, .slice a k c, .int .u64 0, .string ByteArray.empty, .slice none 0 0]) (by simp [results, Tryz.results10, go_sem, z0, z1, z2, z3, z4, z5]) rfl ?_
    exact F.out
end Go.Proofs.YtpcnmgldmnncoaaGreatDoor
