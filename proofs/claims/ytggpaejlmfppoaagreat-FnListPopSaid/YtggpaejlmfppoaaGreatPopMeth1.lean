/- spec.listPop at one argument (printed by genpopmeth.py). -/
import Derived.Test.YtggpaejlmfppoaaGreatPopMeth
namespace Go.Proofs.YtggpaejlmfppoaaGreat
open Go.RowKit Dig
set_option linter.unusedVariables false
set_option linter.unusedSimpArgs false
set_option maxRecDepth 100000

set_option maxHeartbeats 12800000 in
theorem listPop_one (xs : List Cel) (y : Cel) (a : Option Addr) (n c : Nat) (a2 : Option Addr) (c2 : Nat) (w : World) (hv : CeL w w.heap.size (.slice a n c) xs) (hxl : xs.length ≤ 1048576) (hv2 : CeL w w.heap.size (.slice a2 1 c2) [y]) (hok : y.ok) :
    Calls Tryz.prog 21 #[.agg #[.int .i64 6, .bool false, .slice none 0 0, .int .u64 0, .string ByteArray.empty, .slice a n c], .slice a2 1 c2] w (LpPost xs [y] a n c w) := by
  have hn : n = xs.length := by obtain ⟨_, _, e, _⟩ := id hv; simp only [Value.slice.injEq] at e; exact e.2.1
  have HN := Lib.hid hn
  have hnl : n ≤ 1048576 := by omega
  have HV := Lib.hid hv; have HXL := Lib.hid hxl
  obtain ⟨ats, hats⟩ : ∃ ats, ats = [y] := ⟨_, rfl⟩
  have HATS := Lib.hid hats
  rw [← hats]
  have hb0 : Below w.heap.size w (((w.alloc (.cells #[.int .i64 6, .bool false, .slice none 0 0, .int .u64 0, .string ByteArray.empty, .slice a n c] 27)).alloc (.cells #[.int .i64 0, .bool false, .slice none 0 0, .int .u64 0, .string ByteArray.empty, .slice none 0 0] 27)).alloc (.cells #[.int .i64 0, .bool false, .slice none 0 0, .int .u64 0, .string ByteArray.empty, .slice none 0 0] 27)) := (((Below.refl _ _).alloc (Nat.le_refl _) _).alloc (by simp) _).alloc (by simp; omega) _
  have hk0 : Blk (((w.alloc (.cells #[.int .i64 6, .bool false, .slice none 0 0, .int .u64 0, .string ByteArray.empty, .slice a n c] 27)).alloc (.cells #[.int .i64 0, .bool false, .slice none 0 0, .int .u64 0, .string ByteArray.empty, .slice none 0 0] 27)).alloc (.cells #[.int .i64 0, .bool false, .slice none 0 0, .int .u64 0, .string ByteArray.empty, .slice none 0 0] 27)) w.heap.size 27 [.int .i64 6, .bool false, .slice none 0 0, .int .u64 0, .string ByteArray.empty, .slice a n c] := ((Blk.new w 27 [.int .i64 6, .bool false, .slice none 0 0, .int .u64 0, .string ByteArray.empty, .slice a n c]).alloc _).alloc _
  have hk1 : Blk (((w.alloc (.cells #[.int .i64 6, .bool false, .slice none 0 0, .int .u64 0, .string ByteArray.empty, .slice a n c] 27)).alloc (.cells #[.int .i64 0, .bool false, .slice none 0 0, .int .u64 0, .string ByteArray.empty, .slice none 0 0] 27)).alloc (.cells #[.int .i64 0, .bool false, .slice none 0 0, .int .u64 0, .string ByteArray.empty, .slice none 0 0] 27)) (w.heap.size + 1) 27 zeroVal := by
    have := (Blk.new (w.alloc (.cells #[.int .i64 6, .bool false, .slice none 0 0, .int .u64 0, .string ByteArray.empty, .slice a n c] 27)) 27 zeroVal).alloc (.cells #[.int .i64 0, .bool false, .slice none 0 0, .int .u64 0, .string ByteArray.empty, .slice none 0 0] 27)
    simpa [zeroVal] using this
  have hk2 : Blk (((w.alloc (.cells #[.int .i64 6, .bool false, .slice none 0 0, .int .u64 0, .string ByteArray.empty, .slice a n c] 27)).alloc (.cells #[.int .i64 0, .bool false, .slice none 0 0, .int .u64 0, .string ByteArray.empty, .slice none 0 0] 27)).alloc (.cells #[.int .i64 0, .bool false, .slice none 0 0, .int .u64 0, .string ByteArray.empty, .slice none 0 0] 27)) (w.heap.size + 1 + 1) 27 zeroVal := by
    have := Blk.new ((w.alloc (.cells #[.int .i64 6, .bool false, .slice none 0 0, .int .u64 0, .string ByteArray.empty, .slice a n c] 27)).alloc (.cells #[.int .i64 0, .bool false, .slice none 0 0, .int .u64 0, .string ByteArray.empty, .slice none 0 0] 27)) 27 zeroVal
    simpa [zeroVal] using this
  obtain ⟨W0, hW0⟩ : ∃ W0, W0 = (((w.alloc (.cells #[.int .i64 6, .bool false, .slice none 0 0, .int .u64 0, .string ByteArray.empty, .slice a n c] 27)).alloc (.cells #[.int .i64 0, .bool false, .slice none 0 0, .int .u64 0, .string ByteArray.empty, .slice none 0 0] 27)).alloc (.cells #[.int .i64 0, .bool false, .slice none 0 0, .int .u64 0, .string ByteArray.empty, .slice none 0 0] 27)) := ⟨_, rfl⟩
  rw [← hW0] at hb0 hk0 hk1 hk2
  have HB := Lib.hid (Below.refl W0.heap.size W0)
  have HD : Hid (Below W0.heap.size W0 W0.drew) := Lib.hid (below_drew1 (Below.refl _ _))
  have HB0 := Lib.hid hb0
  have BR : Hid (∀ W, Below W0.heap.size W0 W → Blk W (w.heap.size + 1) 27 zeroVal ∧ Blk W (w.heap.size + 1 + 1) 27 zeroVal) := Lib.hid (fun W hb => ⟨hk1.below hb hk1.lt, hk2.below hb hk2.lt⟩)
  have KEEP : Hid (∀ W, Below W0.heap.size W0 W → (W.cell? ⟨w.heap.size, 0, none⟩ = some (.int .i64 6) ∧ W.cell? ⟨w.heap.size, 1, none⟩ = some (.bool false) ∧ W.cell? ⟨w.heap.size, 2, none⟩ = some (.slice none 0 0) ∧ W.cell? ⟨w.heap.size, 3, none⟩ = some (.int .u64 0) ∧ W.cell? ⟨w.heap.size, 4, none⟩ = some (.string ByteArray.empty) ∧ W.cell? ⟨w.heap.size, 5, none⟩ = some (.slice a n c)) ∧ (W.cell? ⟨w.heap.size + 1, 0, none⟩ = some (.int .i64 0) ∧ W.cell? ⟨w.heap.size + 1, 1, none⟩ = some (.bool false) ∧ W.cell? ⟨w.heap.size + 1, 2, none⟩ = some (.slice none 0 0) ∧ W.cell? ⟨w.heap.size + 1, 3, none⟩ = some (.int .u64 0) ∧ W.cell? ⟨w.heap.size + 1, 4, none⟩ = some (.string ByteArray.empty) ∧ W.cell? ⟨w.heap.size + 1, 5, none⟩ = some (.slice none 0 0)) ∧ (W.cell? ⟨w.heap.size + 1 + 1, 0, none⟩ = some (.int .i64 0) ∧ W.cell? ⟨w.heap.size + 1 + 1, 1, none⟩ = some (.bool false) ∧ W.cell? ⟨w.heap.size + 1 + 1, 2, none⟩ = some (.slice none 0 0) ∧ W.cell? ⟨w.heap.size + 1 + 1, 3, none⟩ = some (.int .u64 0) ∧ W.cell? ⟨w.heap.size + 1 + 1, 4, none⟩ = some (.string ByteArray.empty) ∧ W.cell? ⟨w.heap.size + 1 + 1, 5, none⟩ = some (.slice none 0 0)) ∧ (W.frozen? ⟨w.heap.size + 1, 0, none⟩ = false ∧ W.frozen? ⟨w.heap.size + 1, 1, none⟩ = false ∧ W.frozen? ⟨w.heap.size + 1, 2, none⟩ = false ∧ W.frozen? ⟨w.heap.size + 1, 3, none⟩ = false ∧ W.frozen? ⟨w.heap.size + 1, 4, none⟩ = false ∧ W.frozen? ⟨w.heap.size + 1, 5, none⟩ = false) ∧ (W.frozen? ⟨w.heap.size + 1 + 1, 0, none⟩ = false ∧ W.frozen? ⟨w.heap.size + 1 + 1, 1, none⟩ = false ∧ W.frozen? ⟨w.heap.size + 1 + 1, 2, none⟩ = false ∧ W.frozen? ⟨w.heap.size + 1 + 1, 3, none⟩ = false ∧ W.frozen? ⟨w.heap.size + 1 + 1, 4, none⟩ = false ∧ W.frozen? ⟨w.heap.size + 1 + 1, 5, none⟩ = false) ∧ w.heap.size < W.heap.size ∧ w.heap.size + 1 < W.heap.size ∧ w.heap.size + 1 + 1 < W.heap.size) := Lib.hid (fun W hb => by
    have k0 := hk0.below hb hk0.lt
    have k1 := hk1.below hb hk1.lt
    have k2 := hk2.below hb hk2.lt
    exact ⟨⟨k0.cell 0 (by simp), k0.cell 1 (by simp), k0.cell 2 (by simp), k0.cell 3 (by simp), k0.cell 4 (by simp), k0.cell 5 (by simp)⟩, ⟨k1.cell 0 (by simp [zeroVal]), k1.cell 1 (by simp [zeroVal]), k1.cell 2 (by simp [zeroVal]), k1.cell 3 (by simp [zeroVal]), k1.cell 4 (by simp [zeroVal]), k1.cell 5 (by simp [zeroVal])⟩, ⟨k2.cell 0 (by simp [zeroVal]), k2.cell 1 (by simp [zeroVal]), k2.cell 2 (by simp [zeroVal]), k2.cell 3 (by simp [zeroVal]), k2.cell 4 (by simp [zeroVal]), k2.cell 5 (by simp [zeroVal])⟩, ⟨k1.free 0, k1.free 1, k1.free 2, k1.free 3, k1.free 4, k1.free 5⟩, ⟨k2.free 0, k2.free 1, k2.free 2, k2.free 3, k2.free 4, k2.free 5⟩, k0.lt, k1.lt, k2.lt⟩)
  obtain ⟨b2, o2, n2, p2, l2, k2, s2, rfl, hb2B, hz2, hnc2, ⟨g0, g1, g2, g3, g4, g5⟩, hva2⟩ := hv2.at (k := 0) rfl
  clear hz2
  replace g0 : w.cell? ⟨b2, o2, none⟩ = _ := g0
  replace g1 : w.cell? ⟨b2, o2 + 1, none⟩ = _ := g1
  replace g2 : w.cell? ⟨b2, o2 + 2, none⟩ = _ := g2
  replace g3 : w.cell? ⟨b2, o2 + 3, none⟩ = _ := g3
  replace g4 : w.cell? ⟨b2, o2 + 4, none⟩ = _ := g4
  replace g5 : w.cell? ⟨b2, o2 + 5, none⟩ = _ := g5
  have W64 : Hid (Calls Tryz.prog 47 #[.agg #[.int .i64 y.kind, .bool n2, .slice p2 l2 k2, .int .u64 y.bits, .string s2, .slice none 0 0]] W0 (fun e w' => ∃ i okb, e = .returned (.tuple #[.int .i64 i, .bool okb]) ∧ Hid (okb = (placeOf y).isSome) ∧ Hid (∀ j, placeOf y = some j → i = j) ∧ -9223372036854775808 ≤ i ∧ i ≤ 9223372036854775807 ∧ Hid (Below W0.heap.size W0 w'))) := Lib.hid ((whole64_any y n2 p2 l2 k2 s2 W0 ((hva2.below hb0).more hb0.size) hok).mono (by
    rintro e w' ⟨i, rfl, h1, h2, h3, h4⟩
    exact ⟨i, _, rfl, Lib.hid rfl, Lib.hid h1, h2, h3, Lib.hid h4⟩))
  have e0 := (hb0.cell (p := ⟨b2, o2, none⟩) hb2B).trans g0
  have e1 := (hb0.cell (p := ⟨b2, o2 + 1, none⟩) hb2B).trans g1
  have e2 := (hb0.cell (p := ⟨b2, o2 + 2, none⟩) hb2B).trans g2
  have e3 := (hb0.cell (p := ⟨b2, o2 + 3, none⟩) hb2B).trans g3
  have e4 := (hb0.cell (p := ⟨b2, o2 + 4, none⟩) hb2B).trans g4
  have e5 := (hb0.cell (p := ⟨b2, o2 + 5, none⟩) hb2B).trans g5
  have lb2 : b2 < W0.heap.size := Nat.lt_of_lt_of_le hb2B hb0.size
  generalize y.kind = kd2 at *
  generalize y.bits = ub2 at *
  clear hv hxl hv2 hok hva2 g0 g1 g2 g3 g4 g5 hats hn
  go_enter Tryz.func21, Tryz.ntmps21
  go_wp2_with fail
  refine (arity01_any _ _ _ _ (by omega)).mono ?_
  rintro e w1 ⟨rfl, hw1⟩
  obtain rfl : W0 = w1 := hW0.trans hw1
  clear hw1 hW0
  go_wp2_with fail
  refine W64.out.mono ?_
  rintro e w1 ⟨i, okb, rfl, HOB, HPL, hi1, hi2, HB⟩
  clear W64 e0 e1 e2 e3 e4 e5 lb2
  have HD := Lib.hid (below_drew1 HB.out)
  obtain ⟨⟨c00, c01, c02, c03, c04, c05⟩, ⟨c10, c11, c12, c13, c14, c15⟩, ⟨c20, c21, c22, c23, c24, c25⟩, ⟨f10, f11, f12, f13, f14, f15⟩, ⟨f20, f21, f22, f23, f24, f25⟩, lt0, lt1, lt2⟩ := KEEP.out _ HB.out
  have HASK : Hid (∀ N, popAt ats N = (placeOf y).bind (popIdx N)) := Lib.hid (by intro N; rw [HATS.out]; rfl)
  cases okb with
  | false =>
    have HP : Hid (popAt ats xs.length = none) := Lib.hid (by rw [HASK.out]; cases hp : placeOf y with | none => rfl | some j => have := HOB.out; rw [hp] at this; cases this)
    by_cases hneg : i < 0
    · obtain ⟨m, hm⟩ : ∃ m : Int, m = i + (n : Int) := ⟨_, rfl⟩
      obtain rfl : i = m - (n : Int) := by omega
      have hwm : wrap64 m = m := by unfold wrap64; omega
      have hwm2 : IntKind.i64.wrap m = m := by rw [IntKind.wrap_i64]; omega
      clear hm hi1 hi2
      go_wp2_with fail
      go_region_law (fail)
      all_goals
        generalize hWE : World.setCell _ _ _ = WE
        obtain ⟨⟨z0, z1, z2, z3, z4, z5⟩, ⟨y0, y1, y2, y3, y4, y5⟩⟩ := twelve_set (BR.out _ (by first | exact HB.out | exact HD.out)).1 (BR.out _ (by first | exact HB.out | exact HD.out)).2 (by omega) hWE
        have HWE := Lib.hid hWE
        clear hWE
        go_wp2_with fail
        refine bodyPost_ret (v := .tuple #[.agg #[.int .i64 0, .bool false, .slice none 0 0, .int .u64 0, .string ByteArray.empty, .slice none 0 0], .agg #[.int .i64 6, .bool false, .slice none 0 0, .int .u64 0, .string ByteArray.empty, .slice a n c], .bool false]) (by simp [results, Tryz.results21, go_sem, z0, z1, z2, z3, z4, z5, y0, y1, y2, y3, y4, y5] <;> rfl) rfl ?_
        rw [← HWE.out]
        exact LpPost.drew (lp_err (HB0.out.trans (HB.out.mono HB0.out.size)) HP.out (by omega) (by omega) _ _ _ _ _ _ _ _ _ _ _ _)
    · have hge : 0 ≤ i := by omega
      clear hi1 hi2
      go_wp2_with fail
      go_region_law (fail)
      all_goals
        generalize hWE : World.setCell _ _ _ = WE
        obtain ⟨⟨z0, z1, z2, z3, z4, z5⟩, ⟨y0, y1, y2, y3, y4, y5⟩⟩ := twelve_set (BR.out _ (by first | exact HB.out | exact HD.out)).1 (BR.out _ (by first | exact HB.out | exact HD.out)).2 (by omega) hWE
        have HWE := Lib.hid hWE
        clear hWE
        go_wp2_with fail
        refine bodyPost_ret (v := .tuple #[.agg #[.int .i64 0, .bool false, .slice none 0 0, .int .u64 0, .string ByteArray.empty, .slice none 0 0], .agg #[.int .i64 6, .bool false, .slice none 0 0, .int .u64 0, .string ByteArray.empty, .slice a n c], .bool false]) (by simp [results, Tryz.results21, go_sem, z0, z1, z2, z3, z4, z5, y0, y1, y2, y3, y4, y5] <;> rfl) rfl ?_
        rw [← HWE.out]
        exact LpPost.drew (lp_err (HB0.out.trans (HB.out.mono HB0.out.size)) HP.out (by omega) (by omega) _ _ _ _ _ _ _ _ _ _ _ _)
  | true =>
    obtain ⟨j, hj⟩ : ∃ j, placeOf y = some j := by
      cases hp : placeOf y with
      | none => have := HOB.out; rw [hp] at this; cases this
      | some j => exact ⟨j, rfl⟩
    obtain rfl : i = j := HPL.out j hj
    have HPI : Hid (popAt ats xs.length = popIdx n i) := Lib.hid (by rw [HASK.out, hj, HN.out]; rfl)
    clear hj
    by_cases hneg : i < 0
    · obtain ⟨m, hm⟩ : ∃ m : Int, m = i + (n : Int) := ⟨_, rfl⟩
      obtain rfl : i = m - (n : Int) := by omega
      have hwm : wrap64 m = m := by unfold wrap64; omega
      have hwm2 : IntKind.i64.wrap m = m := by rw [IntKind.wrap_i64]; omega
      clear hm hi1 hi2
      by_cases hm0 : m < 0
      · have HP : Hid (popAt ats xs.length = none) := Lib.hid (by rw [HPI.out]; unfold popIdx; simp only []; rw [if_pos hneg, if_neg (by omega)])
        go_wp2_with fail
        go_region_law (fail)
        all_goals
          generalize hWE : World.setCell _ _ _ = WE
          obtain ⟨⟨z0, z1, z2, z3, z4, z5⟩, ⟨y0, y1, y2, y3, y4, y5⟩⟩ := twelve_set (BR.out _ (by first | exact HB.out | exact HD.out)).1 (BR.out _ (by first | exact HB.out | exact HD.out)).2 (by omega) hWE
          have HWE := Lib.hid hWE
          clear hWE
          go_wp2_with fail
          refine bodyPost_ret (v := .tuple #[.agg #[.int .i64 0, .bool false, .slice none 0 0, .int .u64 0, .string ByteArray.empty, .slice none 0 0], .agg #[.int .i64 6, .bool false, .slice none 0 0, .int .u64 0, .string ByteArray.empty, .slice a n c], .bool false]) (by simp [results, Tryz.results21, go_sem, z0, z1, z2, z3, z4, z5, y0, y1, y2, y3, y4, y5] <;> rfl) rfl ?_
          rw [← HWE.out]
          exact LpPost.drew (lp_err (HB0.out.trans (HB.out.mono HB0.out.size)) HP.out (by omega) (by omega) _ _ _ _ _ _ _ _ _ _ _ _)
      · obtain ⟨k, rfl⟩ : ∃ k : Nat, m = (k : Int) := ⟨m.toNat, by omega⟩
        have hkn : k < n := by omega
        have HP : Hid (popAt ats xs.length = some k) := Lib.hid (by rw [HPI.out]; unfold popIdx; simp only []; rw [if_pos hneg, if_pos ⟨by omega, by omega⟩]; congr 1; omega)
        clear hm0 hwm hwm2
        have hnge : ¬ (n : Int) ≤ (k : Int) := by omega
        obtain ⟨x, hx⟩ : ∃ x, xs[k]? = some x := ⟨_, List.getElem?_eq_getElem (by rw [← HN.out]; exact hkn)⟩
        obtain ⟨b, o, n1, a1, l1, c1, s1, rfl, hbB, hz, hnc, ⟨g0, g1, g2, g3, g4, g5⟩, hva⟩ := HV.out.at hx
        obtain ⟨kd, hkd⟩ : ∃ kd, kd = x.kind := ⟨_, rfl⟩
        obtain ⟨ub, hub⟩ : ∃ ub, ub = x.bits := ⟨_, rfl⟩
        rw [← hkd] at g0
        rw [← hub] at g3
        have GG : Hid (∀ W, Below W0.heap.size W0 W → b < W.heap.size ∧ W.cell? ⟨b, o + k * 6, none⟩ = some (.int .i64 kd) ∧ W.cell? ⟨b, o + k * 6 + 1, none⟩ = some (.bool n1) ∧ W.cell? ⟨b, o + k * 6 + 2, none⟩ = some (.slice a1 l1 c1) ∧ W.cell? ⟨b, o + k * 6 + 3, none⟩ = some (.int .u64 ub) ∧ W.cell? ⟨b, o + k * 6 + 4, none⟩ = some (.string s1) ∧ W.cell? ⟨b, o + k * 6 + 5, none⟩ = some (.slice none 0 0)) := Lib.hid (fun W hb' => by
          have hb := HB0.out.trans (hb'.mono HB0.out.size)
          exact ⟨Nat.lt_of_lt_of_le hbB hb.size, (hb.cell (p := ⟨b, o + k * 6, none⟩) hbB).trans g0, (hb.cell (p := ⟨b, o + k * 6 + 1, none⟩) hbB).trans g1, (hb.cell (p := ⟨b, o + k * 6 + 2, none⟩) hbB).trans g2, (hb.cell (p := ⟨b, o + k * 6 + 3, none⟩) hbB).trans g3, (hb.cell (p := ⟨b, o + k * 6 + 4, none⟩) hbB).trans g4, (hb.cell (p := ⟨b, o + k * 6 + 5, none⟩) hbB).trans g5⟩)
        have CW : Hid (∀ W, Below W0.heap.size W0 W → Calls Tryz.prog 23 #[.slice (some ⟨b, o, none⟩) n c, .int .i64 (k : Int), .int .i64 1] W (fun e w' => ∃ ob oc, e = .returned (.slice ob (xs.eraseIdx k).length oc) ∧ Hid (CeL w' w'.heap.size (.slice ob (xs.eraseIdx k).length oc) (xs.eraseIdx k)) ∧ Hid (∀ y, ob = some y → (y.block ≠ w.heap.size + 1 ∧ y.block ≠ w.heap.size + 1 + 1) ∧ w.heap.size ≤ y.block) ∧ Below W0.heap.size W0 w')) := Lib.hid (fun W hb => by
          have hbw := HB0.out.trans (hb.mono HB0.out.size)
          refine (without_any xs k _ n c W ((HV.out.below hbw).more hbw.size) (by rw [← HN.out]; exact hkn) HXL.out).mono ?_
          rintro e w' ⟨ob, oc, rfl, hce, hb1, hfr⟩
          obtain ⟨_, _, _, _, _, _, _, h2⟩ := KEEP.out W hb
          exact ⟨ob, oc, rfl, Lib.hid hce, Lib.hid (fun y hy => by have := hfr y hy; omega), hb.trans (hb1.mono hb.size)⟩)
        have FIN : Hid (∀ W ob oc v0 v1 v2 v3 v4 v5 u0 u1 u2 u3 u4 u5, Below W0.heap.size W0 W → Hid (CeL W W.heap.size (.slice ob (xs.eraseIdx k).length oc) (xs.eraseIdx k)) → Hid (∀ y, ob = some y → (y.block ≠ w.heap.size + 1 ∧ y.block ≠ w.heap.size + 1 + 1) ∧ w.heap.size ≤ y.block) → LpPost xs ats (some ⟨b, o, none⟩) n c w (.returned (.tuple #[.agg #[.int .i64 kd, .bool n1, .slice a1 l1 c1, .int .u64 ub, .string s1, .slice none 0 0], .agg #[.int .i64 6, .bool false, .slice none 0 0, .int .u64 0, .string ByteArray.empty, .slice ob (xs.eraseIdx k).length oc], .bool true])) ((((((((((((W.setCell ⟨w.heap.size + 1, 0, none⟩ (v0)).setCell ⟨w.heap.size + 1, 1, none⟩ (v1)).setCell ⟨w.heap.size + 1, 2, none⟩ (v2)).setCell ⟨w.heap.size + 1, 3, none⟩ (v3)).setCell ⟨w.heap.size + 1, 4, none⟩ (v4)).setCell ⟨w.heap.size + 1, 5, none⟩ (v5)).setCell ⟨w.heap.size + 1 + 1, 0, none⟩ (u0)).setCell ⟨w.heap.size + 1 + 1, 1, none⟩ (u1)).setCell ⟨w.heap.size + 1 + 1, 2, none⟩ (u2)).setCell ⟨w.heap.size + 1 + 1, 3, none⟩ (u3)).setCell ⟨w.heap.size + 1 + 1, 4, none⟩ (u4)).setCell ⟨w.heap.size + 1 + 1, 5, none⟩ (u5))) := Lib.hid (by
          intro W ob oc v0 v1 v2 v3 v4 v5 u0 u1 u2 u3 u4 u5 hb h1 h2
          subst hkd hub
          exact lp_fin' (HB0.out.trans (hb.mono HB0.out.size)) HP.out hx ((hva.below (HB0.out.trans (hb.mono HB0.out.size))).more (HB0.out.trans (hb.mono HB0.out.size)).size) h1.out h2.out (hk1.below hb hk1.lt) (hk2.below hb hk2.lt) (by omega) (by omega) (by omega) _ _ _ _ _ _ _ _ _ _ _ _)
        generalize hM : (xs.eraseIdx k).length = M at CW FIN
        have hi1 : (0 : Int) ≤ (k : Int) := by omega
        have hi2 : (k : Int) < (n : Int) := by omega
        clear hx hva hkd hub hM hk0 hk1 hk2 hb0 hz
        clear g0 g1 g2 g3 g4 g5
        obtain ⟨lb, g0, g1, g2, g3, g4, g5⟩ := GG.out _ HB.out
        go_wp2_with fail
        go_region_law (first | (go_simp; go_at_call 23; (with_reducible refine (CW.out _ (by first | exact HB.out | (with_unfolding_all exact HD.out))).mono ?_); rintro e w4 ⟨ob, oc, rfl, HCE, HFR, hb⟩; have HB := Lib.hid hb; obtain ⟨⟨c00, c01, c02, c03, c04, c05⟩, ⟨c10, c11, c12, c13, c14, c15⟩, ⟨c20, c21, c22, c23, c24, c25⟩, ⟨f10, f11, f12, f13, f14, f15⟩, ⟨f20, f21, f22, f23, f24, f25⟩, lt0, lt1, lt2⟩ := KEEP.out _ HB.out; obtain ⟨lb, g0, g1, g2, g3, g4, g5⟩ := GG.out _ hb; clear hb))
        all_goals
          generalize hWE : World.setCell _ _ _ = WE
          obtain ⟨⟨z0, z1, z2, z3, z4, z5⟩, ⟨y0, y1, y2, y3, y4, y5⟩⟩ := twelve_set (BR.out _ HB.out).1 (BR.out _ HB.out).2 (by omega) hWE
          have HWE := Lib.hid hWE
          clear hWE
          go_wp2_with fail
          refine bodyPost_ret (v := .tuple #[.agg #[.int .i64 kd, .bool n1, .slice a1 l1 c1, .int .u64 ub, .string s1, .slice none 0 0], .agg #[.int .i64 6, .bool false, .slice none 0 0, .int .u64 0, .string ByteArray.empty, .slice ob M oc], .bool true]) (by simp [results, Tryz.results21, go_sem, z0, z1, z2, z3, z4, z5, y0, y1, y2, y3, y4, y5] <;> rfl) rfl ?_
          rw [← HWE.out]
          exact FIN.out _ _ _ _ _ _ _ _ _ _ _ _ _ _ _ HB.out HCE HFR
    · have hge : 0 ≤ i := by omega
      clear hi1 hi2
      by_cases hin : i < (n : Int)
      · obtain ⟨k, rfl⟩ : ∃ k : Nat, i = (k : Int) := ⟨i.toNat, by omega⟩
        have hkn : k < n := by omega
        have HP : Hid (popAt ats xs.length = some k) := Lib.hid (by rw [HPI.out]; unfold popIdx; simp only []; rw [if_neg hneg, if_pos ⟨by omega, by omega⟩]; congr 1)
        have hnge : ¬ (n : Int) ≤ (k : Int) := by omega
        clear hge
        obtain ⟨x, hx⟩ : ∃ x, xs[k]? = some x := ⟨_, List.getElem?_eq_getElem (by rw [← HN.out]; exact hkn)⟩
        obtain ⟨b, o, n1, a1, l1, c1, s1, rfl, hbB, hz, hnc, ⟨g0, g1, g2, g3, g4, g5⟩, hva⟩ := HV.out.at hx
        obtain ⟨kd, hkd⟩ : ∃ kd, kd = x.kind := ⟨_, rfl⟩
        obtain ⟨ub, hub⟩ : ∃ ub, ub = x.bits := ⟨_, rfl⟩
        rw [← hkd] at g0
        rw [← hub] at g3
        have GG : Hid (∀ W, Below W0.heap.size W0 W → b < W.heap.size ∧ W.cell? ⟨b, o + k * 6, none⟩ = some (.int .i64 kd) ∧ W.cell? ⟨b, o + k * 6 + 1, none⟩ = some (.bool n1) ∧ W.cell? ⟨b, o + k * 6 + 2, none⟩ = some (.slice a1 l1 c1) ∧ W.cell? ⟨b, o + k * 6 + 3, none⟩ = some (.int .u64 ub) ∧ W.cell? ⟨b, o + k * 6 + 4, none⟩ = some (.string s1) ∧ W.cell? ⟨b, o + k * 6 + 5, none⟩ = some (.slice none 0 0)) := Lib.hid (fun W hb' => by
          have hb := HB0.out.trans (hb'.mono HB0.out.size)
          exact ⟨Nat.lt_of_lt_of_le hbB hb.size, (hb.cell (p := ⟨b, o + k * 6, none⟩) hbB).trans g0, (hb.cell (p := ⟨b, o + k * 6 + 1, none⟩) hbB).trans g1, (hb.cell (p := ⟨b, o + k * 6 + 2, none⟩) hbB).trans g2, (hb.cell (p := ⟨b, o + k * 6 + 3, none⟩) hbB).trans g3, (hb.cell (p := ⟨b, o + k * 6 + 4, none⟩) hbB).trans g4, (hb.cell (p := ⟨b, o + k * 6 + 5, none⟩) hbB).trans g5⟩)
        have CW : Hid (∀ W, Below W0.heap.size W0 W → Calls Tryz.prog 23 #[.slice (some ⟨b, o, none⟩) n c, .int .i64 (k : Int), .int .i64 1] W (fun e w' => ∃ ob oc, e = .returned (.slice ob (xs.eraseIdx k).length oc) ∧ Hid (CeL w' w'.heap.size (.slice ob (xs.eraseIdx k).length oc) (xs.eraseIdx k)) ∧ Hid (∀ y, ob = some y → (y.block ≠ w.heap.size + 1 ∧ y.block ≠ w.heap.size + 1 + 1) ∧ w.heap.size ≤ y.block) ∧ Below W0.heap.size W0 w')) := Lib.hid (fun W hb => by
          have hbw := HB0.out.trans (hb.mono HB0.out.size)
          refine (without_any xs k _ n c W ((HV.out.below hbw).more hbw.size) (by rw [← HN.out]; exact hkn) HXL.out).mono ?_
          rintro e w' ⟨ob, oc, rfl, hce, hb1, hfr⟩
          obtain ⟨_, _, _, _, _, _, _, h2⟩ := KEEP.out W hb
          exact ⟨ob, oc, rfl, Lib.hid hce, Lib.hid (fun y hy => by have := hfr y hy; omega), hb.trans (hb1.mono hb.size)⟩)
        have FIN : Hid (∀ W ob oc v0 v1 v2 v3 v4 v5 u0 u1 u2 u3 u4 u5, Below W0.heap.size W0 W → Hid (CeL W W.heap.size (.slice ob (xs.eraseIdx k).length oc) (xs.eraseIdx k)) → Hid (∀ y, ob = some y → (y.block ≠ w.heap.size + 1 ∧ y.block ≠ w.heap.size + 1 + 1) ∧ w.heap.size ≤ y.block) → LpPost xs ats (some ⟨b, o, none⟩) n c w (.returned (.tuple #[.agg #[.int .i64 kd, .bool n1, .slice a1 l1 c1, .int .u64 ub, .string s1, .slice none 0 0], .agg #[.int .i64 6, .bool false, .slice none 0 0, .int .u64 0, .string ByteArray.empty, .slice ob (xs.eraseIdx k).length oc], .bool true])) ((((((((((((W.setCell ⟨w.heap.size + 1, 0, none⟩ (v0)).setCell ⟨w.heap.size + 1, 1, none⟩ (v1)).setCell ⟨w.heap.size + 1, 2, none⟩ (v2)).setCell ⟨w.heap.size + 1, 3, none⟩ (v3)).setCell ⟨w.heap.size + 1, 4, none⟩ (v4)).setCell ⟨w.heap.size + 1, 5, none⟩ (v5)).setCell ⟨w.heap.size + 1 + 1, 0, none⟩ (u0)).setCell ⟨w.heap.size + 1 + 1, 1, none⟩ (u1)).setCell ⟨w.heap.size + 1 + 1, 2, none⟩ (u2)).setCell ⟨w.heap.size + 1 + 1, 3, none⟩ (u3)).setCell ⟨w.heap.size + 1 + 1, 4, none⟩ (u4)).setCell ⟨w.heap.size + 1 + 1, 5, none⟩ (u5))) := Lib.hid (by
          intro W ob oc v0 v1 v2 v3 v4 v5 u0 u1 u2 u3 u4 u5 hb h1 h2
          subst hkd hub
          exact lp_fin' (HB0.out.trans (hb.mono HB0.out.size)) HP.out hx ((hva.below (HB0.out.trans (hb.mono HB0.out.size))).more (HB0.out.trans (hb.mono HB0.out.size)).size) h1.out h2.out (hk1.below hb hk1.lt) (hk2.below hb hk2.lt) (by omega) (by omega) (by omega) _ _ _ _ _ _ _ _ _ _ _ _)
        generalize hM : (xs.eraseIdx k).length = M at CW FIN
        have hi1 : (0 : Int) ≤ (k : Int) := by omega
        have hi2 : (k : Int) < (n : Int) := by omega
        clear hx hva hkd hub hM hk0 hk1 hk2 hb0 hz
        clear g0 g1 g2 g3 g4 g5
        obtain ⟨lb, g0, g1, g2, g3, g4, g5⟩ := GG.out _ HB.out
        go_wp2_with fail
        go_region_law (first | (go_simp; go_at_call 23; (with_reducible refine (CW.out _ (by first | exact HB.out | (with_unfolding_all exact HD.out))).mono ?_); rintro e w4 ⟨ob, oc, rfl, HCE, HFR, hb⟩; have HB := Lib.hid hb; obtain ⟨⟨c00, c01, c02, c03, c04, c05⟩, ⟨c10, c11, c12, c13, c14, c15⟩, ⟨c20, c21, c22, c23, c24, c25⟩, ⟨f10, f11, f12, f13, f14, f15⟩, ⟨f20, f21, f22, f23, f24, f25⟩, lt0, lt1, lt2⟩ := KEEP.out _ HB.out; obtain ⟨lb, g0, g1, g2, g3, g4, g5⟩ := GG.out _ hb; clear hb))
        all_goals
          generalize hWE : World.setCell _ _ _ = WE
          obtain ⟨⟨z0, z1, z2, z3, z4, z5⟩, ⟨y0, y1, y2, y3, y4, y5⟩⟩ := twelve_set (BR.out _ HB.out).1 (BR.out _ HB.out).2 (by omega) hWE
          have HWE := Lib.hid hWE
          clear hWE
          go_wp2_with fail
          refine bodyPost_ret (v := .tuple #[.agg #[.int .i64 kd, .bool n1, .slice a1 l1 c1, .int .u64 ub, .string s1, .slice none 0 0], .agg #[.int .i64 6, .bool false, .slice none 0 0, .int .u64 0, .string ByteArray.empty, .slice ob M oc], .bool true]) (by simp [results, Tryz.results21, go_sem, z0, z1, z2, z3, z4, z5, y0, y1, y2, y3, y4, y5] <;> rfl) rfl ?_
          rw [← HWE.out]
          exact FIN.out _ _ _ _ _ _ _ _ _ _ _ _ _ _ _ HB.out HCE HFR
      · have hle : (n : Int) ≤ i := by omega
        have HP : Hid (popAt ats xs.length = none) := Lib.hid (by rw [HPI.out]; unfold popIdx; simp only []; rw [if_neg hneg, if_neg (by omega)])
        go_wp2_with fail
        go_region_law (fail)
        all_goals
          generalize hWE : World.setCell _ _ _ = WE
          obtain ⟨⟨z0, z1, z2, z3, z4, z5⟩, ⟨y0, y1, y2, y3, y4, y5⟩⟩ := twelve_set (BR.out _ (by first | exact HB.out | exact HD.out)).1 (BR.out _ (by first | exact HB.out | exact HD.out)).2 (by omega) hWE
          have HWE := Lib.hid hWE
          clear hWE
          go_wp2_with fail
          refine bodyPost_ret (v := .tuple #[.agg #[.int .i64 0, .bool false, .slice none 0 0, .int .u64 0, .string ByteArray.empty, .slice none 0 0], .agg #[.int .i64 6, .bool false, .slice none 0 0, .int .u64 0, .string ByteArray.empty, .slice a n c], .bool false]) (by simp [results, Tryz.results21, go_sem, z0, z1, z2, z3, z4, z5, y0, y1, y2, y3, y4, y5] <;> rfl) rfl ?_
          rw [← HWE.out]
          exact LpPost.drew (lp_err (HB0.out.trans (HB.out.mono HB0.out.size)) HP.out (by omega) (by omega) _ _ _ _ _ _ _ _ _ _ _ _)
end Go.Proofs.YtggpaejlmfppoaaGreat
