/- maker.stmt, a theorem a kind (printed by genwkst5.py). -/
import Derived.Test.YtoojgjhfmmohbaaGreatWkSt3
import Derived.Test.YtoojgjhfmmohbaaGreatMBase
namespace Go.Proofs.YtoojgjhfmmohbaaGreat
open Go.RowKit Dig
set_option linter.unusedVariables false
set_option linter.unusedSimpArgs false
set_option maxRecDepth 100000
set_option maxHeartbeats 12800000 in
theorem mst_k0 {R : Nat → Nat → Option Value} {B H bm : Nat} (op : Int) (tx : ByteArray) (v : VV) (nm : List ByteArray) (x : Tr) (na sa pa ba ea : Option Addr) (nc sc pc bc ec : Nat) (w : World) (bi bf q : Nat) (okx : OkE x) (hxa : ExL R [x] (.slice sa 1 sc)) (ho : Old R B w) (hBH : B ≤ H) (hm : MK w H bm bi bf q) (hq : q + ctS (Tr.mk 0 op tx v nm [x] [] [] []) ≤ 8192) :
   Calls Tryz.prog 28 #[.pointer (some ⟨bm, 0, none⟩), .agg #[.int .i64 0, .int .i64 op, .string tx, .slice na nm.length nc, .slice sa 1 sc, .slice pa 0 pc, .slice ba 0 bc, .slice ea 0 ec]] w (MPost H bm bi bf q (ctS (Tr.mk 0 op tx v nm [x] [] [] [])) (nmS (Tr.mk 0 op tx v nm [x] [] [] [])) w) := by
 have hmf : ∀ (fn : Fn) (first cap : Array Value) (w : World), (Instr.makeFunc fn first cap).run Tryz.prog w = .ok (.func fn first cap) w := fun _ _ _ _ => rfl
 have HM := Li hm
 obtain ⟨nm0, cnt, line, vi, vf, ni, nf, xi, xf, hk, hi, hf, hqq, e1, e2, hH⟩ := hm
 have hl := HM.out.lts
 have c1 := hk.cell 1 (by simp)
 have f1 := hk.free 1
 have hct : 1 ≤ ctS (Tr.mk 0 op tx v nm [x] [] [] []) := by rw [ctS_mk]; omega
 have hcn1 : cnt + 1 ≤ 2147483647 := by omega
 have hc0 : 0 ≤ cnt + 1 := by omega
 have hcq : cnt + 1 ≤ (q : Int) + 1 := by omega
 have hk3 : Blk ((((w.setCell ⟨bm, 1, none⟩ (.int .i32 (cnt + 1))).alloc (.cells #[.pointer (some ⟨bm, 0, none⟩)] 50)).alloc (.cells #[.int .i64 0, .int .i64 op, .string tx, .slice na nm.length nc, .slice sa 1 sc, .slice pa 0 pc, .slice ba 0 bc, .slice ea 0 ec] 42)).alloc (.cells #[.int .i32 (cnt + 1)] 21)) bm 83 _ := (((hk.set 1 (.int .i32 (cnt + 1))).alloc _).alloc _).alloc _
 have c2a := hk3.cell 2 (by simp)
 have f2a := hk3.free 2
 obtain ⟨hm5, hk5⟩ := st_start (SS := [.int .i64 0, .int .i64 op, .string tx, .slice na nm.length nc, .slice sa 1 sc, .slice pa 0 pc, .slice ba 0 bc, .slice ea 0 ec]) HM.out hc0 hcq
 have m0 := cell_under (hk5.hmb.cell 0 (by simp)) (by simp [World.setCell]; omega)
 have HPOS := Li (pos_any H bm bi bf (q + 1) _ (hm5.to (by omega) (by omega) (by omega)))
 have M5 := Li hm5
 have K5 := Li hk5
 have HO := Li ho
 have HQ := Li hq
 have HCT := Li hct
 have HXA := Li hxa
 clear hxa
 clear hk hi hf hqq e1 e2 hk3 hm5 hk5 ho hq hct
 go_enter_defers Tryz.func28, Tryz.ntmps28
 go_wp2_with fail
 refine HPOS.out.mono ?_
 rintro e w6 ⟨ln, rfl, hb6⟩
 clear HPOS m0 c2a f2a
 obtain ⟨pb, hpb⟩ : ∃ pb, w6.heap.size = pb := ⟨_, rfl⟩
 have hbp := hb6.alloc hb6.size (.cells #[.pointer (some ⟨bm, 0, none⟩), .int .i32 ln, .int .i32 1] 63)
 have hpk : Blk (w6.alloc (.cells #[.pointer (some ⟨bm, 0, none⟩), .int .i32 ln, .int .i32 1] 63)) pb 63 [.pointer (some ⟨bm, 0, none⟩), .int .i32 ln, .int .i32 1] := by rw [← hpb]; exact Blk.new w6 _ _
 have M6 : Hid (MK3 (w6.alloc (.cells #[.pointer (some ⟨bm, 0, none⟩), .int .i32 ln, .int .i32 1] 63)).drew H bm bi bf q q (q + 1)) := Li (show MK3 (w6.alloc (.cells #[.pointer (some ⟨bm, 0, none⟩), .int .i32 ln, .int .i32 1] 63)) H bm bi bf q q (q + 1) from M5.out.below hbp)
 have K6' := K5.out.keep (M5.out.to (q := q + 1) (by omega) (by omega) (by omega)) (Stp.of_below hbp)
 have K6 : Hid (StK H bm (cnt + 1) [.int .i64 0, .int .i64 op, .string tx, .slice na nm.length nc, .slice sa 1 sc, .slice pa 0 pc, .slice ba 0 bc, .slice ea 0 ec] w (w6.alloc (.cells #[.pointer (some ⟨bm, 0, none⟩), .int .i32 ln, .int .i32 1] 63)).drew bi bf bi bf) := Li ⟨K6'.hmb, K6'.hsb, K6'.hob, K6'.hfb, K6'.hs.drew⟩
 have P6 : Hid (Blk (w6.alloc (.cells #[.pointer (some ⟨bm, 0, none⟩), .int .i32 ln, .int .i32 1] 63)).drew pb 63 [.pointer (some ⟨bm, 0, none⟩), .int .i32 ln, .int .i32 1]) := Li hpk
 have WT1 := Li (want3_any H bm bi bf q q (q + 1) (w6.alloc (.cells #[.pointer (some ⟨bm, 0, none⟩), .int .i32 ln, .int .i32 1] 63)).drew M6.out)
 have KS : Hid (∀ W bi' bf', StK H bm (cnt + 1) [.int .i64 0, .int .i64 op, .string tx, .slice na nm.length nc, .slice sa 1 sc, .slice pa 0 pc, .slice ba 0 bc, .slice ea 0 ec] w W bi bf bi' bf' → W.cell? ⟨w.heap.size, 0, none⟩ = some (.pointer (some ⟨bm, 0, none⟩)) ∧ W.cell? ⟨w.heap.size + 1, 0, none⟩ = some (.int .i64 0) ∧ W.cell? ⟨w.heap.size + 1, 4, none⟩ = some (.slice sa 1 sc) ∧ W.cell? ⟨w.heap.size + 1 + 1 + 1, 0, none⟩ = some (.int .i64 1)) := Li (fun W bi' bf' h => ⟨h.hmb.cell 0 (by simp), h.hsb.cell 0 (by simp), h.hsb.cell 4 (by simp), h.hfb.cell 0 (by simp)⟩)
 clear hb6 hbp hpk K6' K5 M5
 go_upto_region 7 with fail
 refine wp_region_noPanic ?_
 refine wp_region_held_drew (S := fun W => W.cell? ⟨w.heap.size, 0, none⟩ = some (.pointer (some ⟨bm, 0, none⟩)) ∧ W.cell? ⟨w.heap.size + 1, 0, none⟩ = some (.int .i64 0) ∧ W.cell? ⟨w.heap.size + 1, 4, none⟩ = some (.slice sa 1 sc) ∧ W.cell? ⟨w.heap.size + 1 + 1 + 1, 0, none⟩ = some (.int .i64 1)) (by kernel_rfl) ?_ (fun hHeld => ?_)
 · (try dsimp only)
   with_reducible first | exact KS.out _ _ _ K6.out | exact KS.out _ _ _ K1.out | exact KS.out _ _ _ K2.out | fail
 refine tkA 0 ?_
 refine tkA 1 ?_
 refine tkA 2 ?_
 refine tkA 3 ?_
 refine tkA 4 ?_
 refine tkA 5 ?_
 refine tkA 6 ?_
 refine tkA 7 ?_
 refine tkA 8 ?_
 refine wpAnyH_ready (rs := [9]) (by kernel_rfl) (by simp) ?_
 refine AllReadyH.cons (o := _) (by simp only [List.getElem?_toArray, List.getElem?_cons_zero, List.getElem?_cons_succ]; rfl) (fun K hK => ?_) AllReadyH.nil
 go_simp
 go_at_call 36
 with_reducible refine WT1.out.mono ?_
 rintro e wt1 ⟨rfl, hs1, hm1⟩
 obtain ⟨k1, p1, wn⟩ := st_nxt K6.out P6.out M6.out hs1 hm1
 have K1 := Li k1
 have P1 := Li p1
 have M1 := Li hm1
 have WT2 := Li wn
 clear hs1 hm1 k1 p1 wn
 refine hK.out _ _ ?_ (fun hHeld => ?_)
 · (try dsimp only)
   with_reducible first | exact KS.out _ _ _ K6.out | exact KS.out _ _ _ K1.out | exact KS.out _ _ _ K2.out | fail
 clear hK K
 try simp only [Act.put, sA, s0, s1]
 refine tkA 10 ?_
 refine tkA 11 ?_
 refine tkA 12 ?_
 refine tkA 13 ?_
 refine tkA 14 ?_
 refine tkA 15 ?_
 refine tkA 16 ?_
 refine tkA 17 ?_
 refine tkA 18 ?_
 refine tkA 19 ?_
 refine tkA 20 ?_
 refine tkA 21 ?_
 refine tkU 22 ?_
 refine tkU 23 ?_
 refine tkU 24 ?_
 refine tkU 25 ?_
 refine tkU 26 ?_
 refine tkU 27 ?_
 refine tkU 28 ?_
 refine tkU 29 ?_
 refine tkU 30 ?_
 refine tkA 31 ?_
 refine wpAnyH_ready (rs := [32]) (by kernel_rfl) (by simp) ?_
 refine AllReadyH.cons (o := _) (by simp only [List.getElem?_toArray, List.getElem?_cons_zero, List.getElem?_cons_succ]; rfl) (fun K hK => ?_) AllReadyH.nil
 go_simp
 go_at_call 36
 with_reducible refine WT2.out.mono ?_
 rintro e wt2 ⟨rfl, hs2, hm2⟩
 obtain ⟨k2, p2, wn⟩ := st_nxt K1.out P1.out M1.out hs2 hm2
 have K2 := Li k2
 have P2 := Li p2
 have M2 := Li hm2
 clear hs2 hm2 k2 p2 wn
 refine hK.out _ _ ?_ (fun hHeld => ?_)
 · (try dsimp only)
   with_reducible first | exact KS.out _ _ _ K6.out | exact KS.out _ _ _ K1.out | exact KS.out _ _ _ K2.out | fail
 clear hK K
 try simp only [Act.put, sA, s0, s1]
 refine tkA 33 ?_
 refine tkA 34 ?_
 refine wpAnyH_done (by kernel_rfl) ?_ _
 refine NoPanic.normal ?_
 try simp only [Act.put, sA, s0, s1]
 have q0 := K2.out.hmb.cell 0 (by simp)
 have s0 := K2.out.hsb.cell 0 (by simp)
 have s1 := K2.out.hsb.cell 1 (by simp)
 have s2 := K2.out.hsb.cell 2 (by simp)
 have s3 := K2.out.hsb.cell 3 (by simp)
 have s4 := K2.out.hsb.cell 4 (by simp)
 have s5 := K2.out.hsb.cell 5 (by simp)
 have s6 := K2.out.hsb.cell 6 (by simp)
 have s7 := K2.out.hsb.cell 7 (by simp)
 have hst2 := K2.out.hs.size
 have HO2 : Hid (Old R B wt2) := Li (HO.out.below ((K2.out.hs.below (H := H) (by omega) (by omega) (by omega) (by omega)).mono hBH))
 clear KS WT1 K6 M6 P6
 have A0 : Hid (Acc H bm bi bf q pb (w.heap.size + 1) ln 42 [.int .i64 0, .int .i64 op, .string tx, .slice na nm.length nc, .slice sa 1 sc, .slice pa 0 pc, .slice ba 0 bc, .slice ea 0 ec] wt2 1 bi bf wt2) := Li ⟨P2.out, K2.out.hsb, Stp.refl _ _ _ _ _, M2.out.to (by omega) (by omega) (by omega), by omega, fr_stmt⟩
 have hce : ctEs [x] + 1 = ctS (Tr.mk 0 op tx v nm [x] [] [] []) := by rw [ctS_mk]; simp <;> omega
 have HCE := Li hce
 have EX := Li (mexprs_of (l := [x]) (H := H) (bm := bm) (fun t _ => mex_any R B H bm t) (by simp; exact okx) sa sc wt2 bi bf (q + 1) HXA.out HO2.out hBH A0.out.hm (by have := HQ.out; omega) (by simp))
 clear hce
 go_wp2_with fail
 refine EX.out.mono ?_
 rintro e w7 h7
 obtain ⟨la, lc, vs1, c7, bi7, bf7, rfl, hvl1, hA1, _, hR1, hN1, hc7⟩ := A0.out.row h7
 have s0' := hA1.he.cell 0 (by simp)
 have s1' := hA1.he.cell 1 (by simp)
 have A1 := Li hA1
 have N1 := Li hN1
 obtain ⟨rb, rfl, hrb, hrc, hrm, hvlr, hrow⟩ := hR1.cells (by simp)
 unfold maxLen at hrm
 obtain ⟨T0, b0, rfl⟩ := hN1.one_of hvl1
 have v0c := hrow 0 _ rfl
 clear hrow hrb hvlr
 clear h7 hA1 hR1 hN1 EX A0
 have h8 : MPost H bm bi bf q (ctS (Tr.mk 0 op tx v nm [x] [] [] [])) (nmS (Tr.mk 0 op tx v nm [x] [] [] [])) wt2 (.returned (.iface 91 (.pointer (some ⟨w7.heap.size, 0, none⟩)))) (w7.alloc (.cells #[.pointer none, .iface T0 (.pointer (some ⟨b0, 0, none⟩))] 95)) := A1.out.fin (L := [.pointer none, .iface T0 (.pointer (some ⟨b0, 0, none⟩))]) (T := 91) (e := 95) (sl := [(1, .x)]) (by simp [tbl]) (.x 1 _ _ _ rfl .nil) N1.out (by have := HCE.out; omega) (by have := HCE.out; omega) (by rw [nmS_mk]; simp)
 obtain ⟨y9, r1, r2, r3, r4, r5, hfin⟩ := K2.out.close (M2.out.to (q := q + 1) (by omega) (by omega) (by omega)) h8 hc0 (by have := HCT.out; omega) (by omega)
 have FIN := Li hfin
 clear h8
 clear A1 N1
 go_wp2_with fail
 refine leaves_cons (f := 34) (args := #[.pointer (some ⟨w.heap.size + 1 + 1, 0, none⟩), .pointer (some ⟨w.heap.size, 0, none⟩)]) (by simp) (by kernel_rfl) ?_
 refine (line_deferred .returning _ bm _ _ (cnt + 1) y9 r1 r2 r3 r4 r5).mono ?_
 rintro e u' w'' ⟨rfl, rfl, rfl⟩
 refine ⟨_, ?_, FIN.out⟩
 simp [results, Tryz.results28, go_sem]
set_option maxHeartbeats 12800000 in
theorem mst_k1 {R : Nat → Nat → Option Value} {B H bm : Nat} (op : Int) (tx : ByteArray) (v : VV) (nm : List ByteArray) (x : Tr) (y : Tr) (na sa pa ba ea : Option Addr) (nc sc pc bc ec : Nat) (w : World) (bi bf q : Nat) (okx : OkE x) (oky : OkE y) (hxa : ExL R [x, y] (.slice sa 2 sc)) (ho : Old R B w) (hBH : B ≤ H) (hm : MK w H bm bi bf q) (hq : q + ctS (Tr.mk 1 op tx v nm [x, y] [] [] []) ≤ 8192) :
   Calls Tryz.prog 28 #[.pointer (some ⟨bm, 0, none⟩), .agg #[.int .i64 1, .int .i64 op, .string tx, .slice na nm.length nc, .slice sa 2 sc, .slice pa 0 pc, .slice ba 0 bc, .slice ea 0 ec]] w (MPost H bm bi bf q (ctS (Tr.mk 1 op tx v nm [x, y] [] [] [])) (nmS (Tr.mk 1 op tx v nm [x, y] [] [] [])) w) := by
 have hmf : ∀ (fn : Fn) (first cap : Array Value) (w : World), (Instr.makeFunc fn first cap).run Tryz.prog w = .ok (.func fn first cap) w := fun _ _ _ _ => rfl
 have HM := Li hm
 obtain ⟨nm0, cnt, line, vi, vf, ni, nf, xi, xf, hk, hi, hf, hqq, e1, e2, hH⟩ := hm
 have hl := HM.out.lts
 have c1 := hk.cell 1 (by simp)
 have f1 := hk.free 1
 have hct : 1 ≤ ctS (Tr.mk 1 op tx v nm [x, y] [] [] []) := by rw [ctS_mk]; omega
 have hcn1 : cnt + 1 ≤ 2147483647 := by omega
 have hc0 : 0 ≤ cnt + 1 := by omega
 have hcq : cnt + 1 ≤ (q : Int) + 1 := by omega
 have hk3 : Blk ((((w.setCell ⟨bm, 1, none⟩ (.int .i32 (cnt + 1))).alloc (.cells #[.pointer (some ⟨bm, 0, none⟩)] 50)).alloc (.cells #[.int .i64 1, .int .i64 op, .string tx, .slice na nm.length nc, .slice sa 2 sc, .slice pa 0 pc, .slice ba 0 bc, .slice ea 0 ec] 42)).alloc (.cells #[.int .i32 (cnt + 1)] 21)) bm 83 _ := (((hk.set 1 (.int .i32 (cnt + 1))).alloc _).alloc _).alloc _
 have c2a := hk3.cell 2 (by simp)
 have f2a := hk3.free 2
 obtain ⟨hm5, hk5⟩ := st_start (SS := [.int .i64 1, .int .i64 op, .string tx, .slice na nm.length nc, .slice sa 2 sc, .slice pa 0 pc, .slice ba 0 bc, .slice ea 0 ec]) HM.out hc0 hcq
 have m0 := cell_under (hk5.hmb.cell 0 (by simp)) (by simp [World.setCell]; omega)
 have HPOS := Li (pos_any H bm bi bf (q + 1) _ (hm5.to (by omega) (by omega) (by omega)))
 have M5 := Li hm5
 have K5 := Li hk5
 have HO := Li ho
 have HQ := Li hq
 have HCT := Li hct
 have HXA := Li hxa
 clear hxa
 clear hk hi hf hqq e1 e2 hk3 hm5 hk5 ho hq hct
 go_enter_defers Tryz.func28, Tryz.ntmps28
 go_wp2_with fail
 refine HPOS.out.mono ?_
 rintro e w6 ⟨ln, rfl, hb6⟩
 clear HPOS m0 c2a f2a
 obtain ⟨pb, hpb⟩ : ∃ pb, w6.heap.size = pb := ⟨_, rfl⟩
 have hbp := hb6.alloc hb6.size (.cells #[.pointer (some ⟨bm, 0, none⟩), .int .i32 ln, .int .i32 1] 63)
 have hpk : Blk (w6.alloc (.cells #[.pointer (some ⟨bm, 0, none⟩), .int .i32 ln, .int .i32 1] 63)) pb 63 [.pointer (some ⟨bm, 0, none⟩), .int .i32 ln, .int .i32 1] := by rw [← hpb]; exact Blk.new w6 _ _
 have M6 : Hid (MK3 (w6.alloc (.cells #[.pointer (some ⟨bm, 0, none⟩), .int .i32 ln, .int .i32 1] 63)).drew H bm bi bf q q (q + 1)) := Li (show MK3 (w6.alloc (.cells #[.pointer (some ⟨bm, 0, none⟩), .int .i32 ln, .int .i32 1] 63)) H bm bi bf q q (q + 1) from M5.out.below hbp)
 have K6' := K5.out.keep (M5.out.to (q := q + 1) (by omega) (by omega) (by omega)) (Stp.of_below hbp)
 have K6 : Hid (StK H bm (cnt + 1) [.int .i64 1, .int .i64 op, .string tx, .slice na nm.length nc, .slice sa 2 sc, .slice pa 0 pc, .slice ba 0 bc, .slice ea 0 ec] w (w6.alloc (.cells #[.pointer (some ⟨bm, 0, none⟩), .int .i32 ln, .int .i32 1] 63)).drew bi bf bi bf) := Li ⟨K6'.hmb, K6'.hsb, K6'.hob, K6'.hfb, K6'.hs.drew⟩
 have P6 : Hid (Blk (w6.alloc (.cells #[.pointer (some ⟨bm, 0, none⟩), .int .i32 ln, .int .i32 1] 63)).drew pb 63 [.pointer (some ⟨bm, 0, none⟩), .int .i32 ln, .int .i32 1]) := Li hpk
 have WT1 := Li (want3_any H bm bi bf q q (q + 1) (w6.alloc (.cells #[.pointer (some ⟨bm, 0, none⟩), .int .i32 ln, .int .i32 1] 63)).drew M6.out)
 have KS : Hid (∀ W bi' bf', StK H bm (cnt + 1) [.int .i64 1, .int .i64 op, .string tx, .slice na nm.length nc, .slice sa 2 sc, .slice pa 0 pc, .slice ba 0 bc, .slice ea 0 ec] w W bi bf bi' bf' → W.cell? ⟨w.heap.size, 0, none⟩ = some (.pointer (some ⟨bm, 0, none⟩)) ∧ W.cell? ⟨w.heap.size + 1, 0, none⟩ = some (.int .i64 1) ∧ W.cell? ⟨w.heap.size + 1, 4, none⟩ = some (.slice sa 2 sc) ∧ W.cell? ⟨w.heap.size + 1 + 1 + 1, 1, none⟩ = some (.int .i64 2)) := Li (fun W bi' bf' h => ⟨h.hmb.cell 0 (by simp), h.hsb.cell 0 (by simp), h.hsb.cell 4 (by simp), h.hfb.cell 1 (by simp)⟩)
 clear hb6 hbp hpk K6' K5 M5
 go_upto_region 7 with fail
 refine wp_region_noPanic ?_
 refine wp_region_held_drew (S := fun W => W.cell? ⟨w.heap.size, 0, none⟩ = some (.pointer (some ⟨bm, 0, none⟩)) ∧ W.cell? ⟨w.heap.size + 1, 0, none⟩ = some (.int .i64 1) ∧ W.cell? ⟨w.heap.size + 1, 4, none⟩ = some (.slice sa 2 sc) ∧ W.cell? ⟨w.heap.size + 1 + 1 + 1, 1, none⟩ = some (.int .i64 2)) (by kernel_rfl) ?_ (fun hHeld => ?_)
 · (try dsimp only)
   with_reducible first | exact KS.out _ _ _ K6.out | exact KS.out _ _ _ K1.out | exact KS.out _ _ _ K2.out | fail
 refine tkA 0 ?_
 refine tkA 1 ?_
 refine tkA 2 ?_
 refine tkA 3 ?_
 refine tkA 4 ?_
 refine tkA 5 ?_
 refine tkA 6 ?_
 refine tkA 7 ?_
 refine tkA 8 ?_
 refine wpAnyH_ready (rs := [9]) (by kernel_rfl) (by simp) ?_
 refine AllReadyH.cons (o := _) (by simp only [List.getElem?_toArray, List.getElem?_cons_zero, List.getElem?_cons_succ]; rfl) (fun K hK => ?_) AllReadyH.nil
 go_simp
 go_at_call 36
 with_reducible refine WT1.out.mono ?_
 rintro e wt1 ⟨rfl, hs1, hm1⟩
 obtain ⟨k1, p1, wn⟩ := st_nxt K6.out P6.out M6.out hs1 hm1
 have K1 := Li k1
 have P1 := Li p1
 have M1 := Li hm1
 have WT2 := Li wn
 clear hs1 hm1 k1 p1 wn
 refine hK.out _ _ ?_ (fun hHeld => ?_)
 · (try dsimp only)
   with_reducible first | exact KS.out _ _ _ K6.out | exact KS.out _ _ _ K1.out | exact KS.out _ _ _ K2.out | fail
 clear hK K
 try simp only [Act.put, sA, s0, s1]
 refine tkA 10 ?_
 refine tkA 11 ?_
 refine tkA 12 ?_
 refine tkA 13 ?_
 refine tkA 14 ?_
 refine tkA 15 ?_
 refine tkA 16 ?_
 refine tkA 17 ?_
 refine tkA 18 ?_
 refine tkA 19 ?_
 refine tkA 20 ?_
 refine tkA 21 ?_
 refine tkU 22 ?_
 refine tkU 23 ?_
 refine tkU 24 ?_
 refine tkU 25 ?_
 refine tkU 26 ?_
 refine tkU 27 ?_
 refine tkU 28 ?_
 refine tkU 29 ?_
 refine tkU 30 ?_
 refine tkA 31 ?_
 refine wpAnyH_ready (rs := [32]) (by kernel_rfl) (by simp) ?_
 refine AllReadyH.cons (o := _) (by simp only [List.getElem?_toArray, List.getElem?_cons_zero, List.getElem?_cons_succ]; rfl) (fun K hK => ?_) AllReadyH.nil
 go_simp
 go_at_call 36
 with_reducible refine WT2.out.mono ?_
 rintro e wt2 ⟨rfl, hs2, hm2⟩
 obtain ⟨k2, p2, wn⟩ := st_nxt K1.out P1.out M1.out hs2 hm2
 have K2 := Li k2
 have P2 := Li p2
 have M2 := Li hm2
 clear hs2 hm2 k2 p2 wn
 refine hK.out _ _ ?_ (fun hHeld => ?_)
 · (try dsimp only)
   with_reducible first | exact KS.out _ _ _ K6.out | exact KS.out _ _ _ K1.out | exact KS.out _ _ _ K2.out | fail
 clear hK K
 try simp only [Act.put, sA, s0, s1]
 refine tkA 33 ?_
 refine tkA 34 ?_
 refine wpAnyH_done (by kernel_rfl) ?_ _
 refine NoPanic.normal ?_
 try simp only [Act.put, sA, s0, s1]
 have q0 := K2.out.hmb.cell 0 (by simp)
 have s0 := K2.out.hsb.cell 0 (by simp)
 have s1 := K2.out.hsb.cell 1 (by simp)
 have s2 := K2.out.hsb.cell 2 (by simp)
 have s3 := K2.out.hsb.cell 3 (by simp)
 have s4 := K2.out.hsb.cell 4 (by simp)
 have s5 := K2.out.hsb.cell 5 (by simp)
 have s6 := K2.out.hsb.cell 6 (by simp)
 have s7 := K2.out.hsb.cell 7 (by simp)
 have hst2 := K2.out.hs.size
 have HO2 : Hid (Old R B wt2) := Li (HO.out.below ((K2.out.hs.below (H := H) (by omega) (by omega) (by omega) (by omega)).mono hBH))
 clear KS WT1 K6 M6 P6
 have A0 : Hid (Acc H bm bi bf q pb (w.heap.size + 1) ln 42 [.int .i64 1, .int .i64 op, .string tx, .slice na nm.length nc, .slice sa 2 sc, .slice pa 0 pc, .slice ba 0 bc, .slice ea 0 ec] wt2 1 bi bf wt2) := Li ⟨P2.out, K2.out.hsb, Stp.refl _ _ _ _ _, M2.out.to (by omega) (by omega) (by omega), by omega, fr_stmt⟩
 have hce : ctEs [x, y] + 1 = ctS (Tr.mk 1 op tx v nm [x, y] [] [] []) := by rw [ctS_mk]; simp <;> omega
 have HCE := Li hce
 have EX := Li (mexprs_of (l := [x, y]) (H := H) (bm := bm) (fun t _ => mex_any R B H bm t) (by simp; exact ⟨okx, oky⟩) sa sc wt2 bi bf (q + 1) HXA.out HO2.out hBH A0.out.hm (by have := HQ.out; omega) (by simp))
 clear hce
 go_wp2_with fail
 refine EX.out.mono ?_
 rintro e w7 h7
 obtain ⟨la, lc, vs1, c7, bi7, bf7, rfl, hvl1, hA1, _, hR1, hN1, hc7⟩ := A0.out.row h7
 have s0' := hA1.he.cell 0 (by simp)
 have s1' := hA1.he.cell 1 (by simp)
 have A1 := Li hA1
 have N1 := Li hN1
 obtain ⟨rb, rfl, hrb, hrc, hrm, hvlr, hrow⟩ := hR1.cells (by simp)
 unfold maxLen at hrm
 obtain ⟨T0, b0, T0', b0', rfl⟩ := hN1.two_of hvl1
 have v0c := hrow 0 _ rfl
 have v1c := hrow 1 _ rfl
 clear hrow hrb hvlr
 clear h7 hA1 hR1 hN1 EX A0
 have AD : Hid (Acc H bm bi bf q pb (w.heap.size + 1) ln 42 [.int .i64 1, .int .i64 op, .string tx, .slice na nm.length nc, .slice sa 2 sc, .slice pa 0 pc, .slice ba 0 bc, .slice ea 0 ec] wt2 _ bi7 bf7 w7.drew) := Li A1.out.drew
 have hnd : Nds (Gx w7.drew wt2.heap.size [bi7, bf7]) [.iface T0 (.pointer (some ⟨b0, 0, none⟩)), .iface T0' (.pointer (some ⟨b0', 0, none⟩))] _ _ := N1.out
 have h8' : MPost H bm bi bf q (ctS (Tr.mk 1 op tx v nm [x, y] [] [] [])) (nmS (Tr.mk 1 op tx v nm [x, y] [] [] [])) wt2 (.returned (.iface 100 (.pointer (some ⟨w7.drew.heap.size, 0, none⟩)))) (w7.drew.alloc (.cells #[.pointer none, .pointer (some ⟨bm, 0, none⟩), .int .i32 ln, .int .i32 1, .int .i8 24, .iface T0 (.pointer (some ⟨b0, 0, none⟩)), .iface T0' (.pointer (some ⟨b0', 0, none⟩))] 104)) := AD.out.fin (L := [.pointer none, .pointer (some ⟨bm, 0, none⟩), .int .i32 ln, .int .i32 1, .int .i8 24, .iface T0 (.pointer (some ⟨b0, 0, none⟩)), .iface T0' (.pointer (some ⟨b0', 0, none⟩))]) (T := 100) (e := 104) (sl := [(5, .x), (6, .x)]) (by simp [tbl]) (.x 5 _ _ _ rfl (.x 6 _ _ _ rfl .nil)) hnd (by have := HCE.out; omega) (by have := HCE.out; omega) (by rw [nmS_mk]; simp)
 have h8 : MPost H bm bi bf q (ctS (Tr.mk 1 op tx v nm [x, y] [] [] [])) (nmS (Tr.mk 1 op tx v nm [x, y] [] [] [])) wt2 (.returned (.iface 100 (.pointer (some ⟨w7.heap.size, 0, none⟩)))) (w7.alloc (.cells #[.pointer none, .pointer (some ⟨bm, 0, none⟩), .int .i32 ln, .int .i32 1, .int .i8 24, .iface T0 (.pointer (some ⟨b0, 0, none⟩)), .iface T0' (.pointer (some ⟨b0', 0, none⟩))] 104)).drew := h8'
 clear hnd h8'
 obtain ⟨y9, r1, r2, r3, r4, r5, hfin⟩ := K2.out.close (M2.out.to (q := q + 1) (by omega) (by omega) (by omega)) h8 hc0 (by have := HCT.out; omega) (by omega)
 have FIN := Li hfin
 clear h8
 have KS : Hid (∀ W n' bi' bf', Acc H bm bi bf q pb (w.heap.size + 1) ln 42 [.int .i64 1, .int .i64 op, .string tx, .slice na nm.length nc, .slice sa 2 sc, .slice pa 0 pc, .slice ba 0 bc, .slice ea 0 ec] wt2 n' bi' bf' W → W.cell? ⟨rb, 0, none⟩ = some (.iface T0 (.pointer (some ⟨b0, 0, none⟩))) → W.cell? ⟨rb, 1, none⟩ = some (.iface T0' (.pointer (some ⟨b0', 0, none⟩))) → W.cell? ⟨rb, 0, none⟩ = some (.iface T0 (.pointer (some ⟨b0, 0, none⟩))) ∧ W.cell? ⟨rb, 1, none⟩ = some (.iface T0' (.pointer (some ⟨b0', 0, none⟩))) ∧ W.cell? ⟨pb, 0, none⟩ = some (.pointer (some ⟨bm, 0, none⟩)) ∧ W.cell? ⟨pb, 1, none⟩ = some (.int .i32 ln) ∧ W.cell? ⟨pb, 2, none⟩ = some (.int .i32 1)) := Li (fun W n' bi' bf' h h1 h2 => ⟨h1, h2, h.hp.cell 0 (by simp), h.hp.cell 1 (by simp), h.hp.cell 2 (by simp)⟩)
 have v0d : w7.drew.cell? ⟨rb, 0, none⟩ = some (.iface T0 (.pointer (some ⟨b0, 0, none⟩))) := v0c
 have v1d : w7.drew.cell? ⟨rb, 1, none⟩ = some (.iface T0' (.pointer (some ⟨b0', 0, none⟩))) := v1c
 have hbx : Below w7.drew.heap.size w7.drew (w7.drew.alloc (.cells #[.pointer none, .pointer (some ⟨bm, 0, none⟩), .int .i32 ln, .int .i32 1, .int .i8 24, .iface T0 (.pointer (some ⟨b0, 0, none⟩)), .iface T0' (.pointer (some ⟨b0', 0, none⟩))] 104)) := (Below.refl _ _).alloc (Nat.le_refl _) _
 have AE : Hid (Acc H bm bi bf q pb (w.heap.size + 1) ln 42 [.int .i64 1, .int .i64 op, .string tx, .slice na nm.length nc, .slice sa 2 sc, .slice pa 0 pc, .slice ba 0 bc, .slice ea 0 ec] wt2 _ bi7 bf7 (w7.alloc (.cells #[.pointer none, .pointer (some ⟨bm, 0, none⟩), .int .i32 ln, .int .i32 1, .int .i8 24, .iface T0 (.pointer (some ⟨b0, 0, none⟩)), .iface T0' (.pointer (some ⟨b0', 0, none⟩))] 104)).drew) := Li (AD.out.keep (Stp.of_below hbx) (k := 0) (AD.out.hm.below hbx)).1
 have v0e : (w7.alloc (.cells #[.pointer none, .pointer (some ⟨bm, 0, none⟩), .int .i32 ln, .int .i32 1, .int .i8 24, .iface T0 (.pointer (some ⟨b0, 0, none⟩)), .iface T0' (.pointer (some ⟨b0', 0, none⟩))] 104)).drew.cell? ⟨rb, 0, none⟩ = some (.iface T0 (.pointer (some ⟨b0, 0, none⟩))) := (hbx.cell (p := ⟨rb, 0, none⟩) (lt_of_cell v0d)).trans v0d
 have v1e : (w7.alloc (.cells #[.pointer none, .pointer (some ⟨bm, 0, none⟩), .int .i32 ln, .int .i32 1, .int .i8 24, .iface T0 (.pointer (some ⟨b0, 0, none⟩)), .iface T0' (.pointer (some ⟨b0', 0, none⟩))] 104)).drew.cell? ⟨rb, 1, none⟩ = some (.iface T0' (.pointer (some ⟨b0', 0, none⟩))) := (hbx.cell (p := ⟨rb, 1, none⟩) (lt_of_cell v1d)).trans v1d
 clear hbx
 go_upto_region 28 with fail
 go_region_held3 (fun W => W.cell? ⟨rb, 0, none⟩ = some (.iface T0 (.pointer (some ⟨b0, 0, none⟩))) ∧ W.cell? ⟨rb, 1, none⟩ = some (.iface T0' (.pointer (some ⟨b0', 0, none⟩))) ∧ W.cell? ⟨pb, 0, none⟩ = some (.pointer (some ⟨bm, 0, none⟩)) ∧ W.cell? ⟨pb, 1, none⟩ = some (.int .i32 ln) ∧ W.cell? ⟨pb, 2, none⟩ = some (.int .i32 1)) (with_reducible first | exact KS.out _ _ _ _ AD.out v0d v1d | exact KS.out _ _ _ _ AE.out v0e v1e | fail) (fail)
 go_wp2_with fail
 refine leaves_cons (f := 34) (args := #[.pointer (some ⟨w.heap.size + 1 + 1, 0, none⟩), .pointer (some ⟨w.heap.size, 0, none⟩)]) (by simp) (by kernel_rfl) ?_
 refine (line_deferred .returning _ bm _ _ (cnt + 1) y9 r1 r2 r3 r4 r5).mono ?_
 rintro e u' w'' ⟨rfl, rfl, rfl⟩
 refine ⟨_, ?_, FIN.out⟩
 simp [results, Tryz.results28, go_sem]
set_option maxHeartbeats 12800000 in
theorem mst_k2 {R : Nat → Nat → Option Value} {B H bm : Nat} (op : Int) (tx : ByteArray) (v : VV) (nm : List ByteArray) (x : Tr) (y : Tr) (na sa pa ba ea : Option Addr) (nc sc pc bc ec : Nat) (w : World) (bi bf q : Nat) (okx : OkE x) (oky : OkE y) (ho1 : 0 ≤ op) (ho2 : op ≤ 10) (hxa : ExL R [x, y] (.slice sa 2 sc)) (ho : Old R B w) (hBH : B ≤ H) (hm : MK w H bm bi bf q) (hq : q + ctS (Tr.mk 2 op tx v nm [x, y] [] [] []) ≤ 8192) :
   Calls Tryz.prog 28 #[.pointer (some ⟨bm, 0, none⟩), .agg #[.int .i64 2, .int .i64 op, .string tx, .slice na nm.length nc, .slice sa 2 sc, .slice pa 0 pc, .slice ba 0 bc, .slice ea 0 ec]] w (MPost H bm bi bf q (ctS (Tr.mk 2 op tx v nm [x, y] [] [] [])) (nmS (Tr.mk 2 op tx v nm [x, y] [] [] [])) w) := by
 have hmf : ∀ (fn : Fn) (first cap : Array Value) (w : World), (Instr.makeFunc fn first cap).run Tryz.prog w = .ok (.func fn first cap) w := fun _ _ _ _ => rfl
 have HM := Li hm
 obtain ⟨nm0, cnt, line, vi, vf, ni, nf, xi, xf, hk, hi, hf, hqq, e1, e2, hH⟩ := hm
 have hl := HM.out.lts
 have c1 := hk.cell 1 (by simp)
 have f1 := hk.free 1
 have hct : 1 ≤ ctS (Tr.mk 2 op tx v nm [x, y] [] [] []) := by rw [ctS_mk]; omega
 have hcn1 : cnt + 1 ≤ 2147483647 := by omega
 have hc0 : 0 ≤ cnt + 1 := by omega
 have hcq : cnt + 1 ≤ (q : Int) + 1 := by omega
 have hk3 : Blk ((((w.setCell ⟨bm, 1, none⟩ (.int .i32 (cnt + 1))).alloc (.cells #[.pointer (some ⟨bm, 0, none⟩)] 50)).alloc (.cells #[.int .i64 2, .int .i64 op, .string tx, .slice na nm.length nc, .slice sa 2 sc, .slice pa 0 pc, .slice ba 0 bc, .slice ea 0 ec] 42)).alloc (.cells #[.int .i32 (cnt + 1)] 21)) bm 83 _ := (((hk.set 1 (.int .i32 (cnt + 1))).alloc _).alloc _).alloc _
 have c2a := hk3.cell 2 (by simp)
 have f2a := hk3.free 2
 obtain ⟨hm5, hk5⟩ := st_start (SS := [.int .i64 2, .int .i64 op, .string tx, .slice na nm.length nc, .slice sa 2 sc, .slice pa 0 pc, .slice ba 0 bc, .slice ea 0 ec]) HM.out hc0 hcq
 have m0 := cell_under (hk5.hmb.cell 0 (by simp)) (by simp [World.setCell]; omega)
 have HPOS := Li (pos_any H bm bi bf (q + 1) _ (hm5.to (by omega) (by omega) (by omega)))
 have M5 := Li hm5
 have K5 := Li hk5
 have HO := Li ho
 have HQ := Li hq
 have HCT := Li hct
 have HXA := Li hxa
 clear hxa
 clear hk hi hf hqq e1 e2 hk3 hm5 hk5 ho hq hct
 go_enter_defers Tryz.func28, Tryz.ntmps28
 go_wp2_with fail
 refine HPOS.out.mono ?_
 rintro e w6 ⟨ln, rfl, hb6⟩
 clear HPOS m0 c2a f2a
 obtain ⟨pb, hpb⟩ : ∃ pb, w6.heap.size = pb := ⟨_, rfl⟩
 have hbp := hb6.alloc hb6.size (.cells #[.pointer (some ⟨bm, 0, none⟩), .int .i32 ln, .int .i32 1] 63)
 have hpk : Blk (w6.alloc (.cells #[.pointer (some ⟨bm, 0, none⟩), .int .i32 ln, .int .i32 1] 63)) pb 63 [.pointer (some ⟨bm, 0, none⟩), .int .i32 ln, .int .i32 1] := by rw [← hpb]; exact Blk.new w6 _ _
 have M6 : Hid (MK3 (w6.alloc (.cells #[.pointer (some ⟨bm, 0, none⟩), .int .i32 ln, .int .i32 1] 63)).drew H bm bi bf q q (q + 1)) := Li (show MK3 (w6.alloc (.cells #[.pointer (some ⟨bm, 0, none⟩), .int .i32 ln, .int .i32 1] 63)) H bm bi bf q q (q + 1) from M5.out.below hbp)
 have K6' := K5.out.keep (M5.out.to (q := q + 1) (by omega) (by omega) (by omega)) (Stp.of_below hbp)
 have K6 : Hid (StK H bm (cnt + 1) [.int .i64 2, .int .i64 op, .string tx, .slice na nm.length nc, .slice sa 2 sc, .slice pa 0 pc, .slice ba 0 bc, .slice ea 0 ec] w (w6.alloc (.cells #[.pointer (some ⟨bm, 0, none⟩), .int .i32 ln, .int .i32 1] 63)).drew bi bf bi bf) := Li ⟨K6'.hmb, K6'.hsb, K6'.hob, K6'.hfb, K6'.hs.drew⟩
 have P6 : Hid (Blk (w6.alloc (.cells #[.pointer (some ⟨bm, 0, none⟩), .int .i32 ln, .int .i32 1] 63)).drew pb 63 [.pointer (some ⟨bm, 0, none⟩), .int .i32 ln, .int .i32 1]) := Li hpk
 have WT1 := Li (want3_any H bm bi bf q q (q + 1) (w6.alloc (.cells #[.pointer (some ⟨bm, 0, none⟩), .int .i32 ln, .int .i32 1] 63)).drew M6.out)
 have KS : Hid (∀ W bi' bf', StK H bm (cnt + 1) [.int .i64 2, .int .i64 op, .string tx, .slice na nm.length nc, .slice sa 2 sc, .slice pa 0 pc, .slice ba 0 bc, .slice ea 0 ec] w W bi bf bi' bf' → W.cell? ⟨w.heap.size, 0, none⟩ = some (.pointer (some ⟨bm, 0, none⟩)) ∧ W.cell? ⟨w.heap.size + 1, 0, none⟩ = some (.int .i64 2) ∧ W.cell? ⟨w.heap.size + 1, 4, none⟩ = some (.slice sa 2 sc) ∧ W.cell? ⟨w.heap.size + 1 + 1 + 1, 2, none⟩ = some (.int .i64 2)) := Li (fun W bi' bf' h => ⟨h.hmb.cell 0 (by simp), h.hsb.cell 0 (by simp), h.hsb.cell 4 (by simp), h.hfb.cell 2 (by simp)⟩)
 clear hb6 hbp hpk K6' K5 M5
 go_upto_region 7 with fail
 refine wp_region_noPanic ?_
 refine wp_region_held_drew (S := fun W => W.cell? ⟨w.heap.size, 0, none⟩ = some (.pointer (some ⟨bm, 0, none⟩)) ∧ W.cell? ⟨w.heap.size + 1, 0, none⟩ = some (.int .i64 2) ∧ W.cell? ⟨w.heap.size + 1, 4, none⟩ = some (.slice sa 2 sc) ∧ W.cell? ⟨w.heap.size + 1 + 1 + 1, 2, none⟩ = some (.int .i64 2)) (by kernel_rfl) ?_ (fun hHeld => ?_)
 · (try dsimp only)
   with_reducible first | exact KS.out _ _ _ K6.out | exact KS.out _ _ _ K1.out | exact KS.out _ _ _ K2.out | fail
 refine tkA 0 ?_
 refine tkA 1 ?_
 refine tkA 2 ?_
 refine tkA 3 ?_
 refine tkA 4 ?_
 refine tkA 5 ?_
 refine tkA 6 ?_
 refine tkA 7 ?_
 refine tkA 8 ?_
 refine wpAnyH_ready (rs := [9]) (by kernel_rfl) (by simp) ?_
 refine AllReadyH.cons (o := _) (by simp only [List.getElem?_toArray, List.getElem?_cons_zero, List.getElem?_cons_succ]; rfl) (fun K hK => ?_) AllReadyH.nil
 go_simp
 go_at_call 36
 with_reducible refine WT1.out.mono ?_
 rintro e wt1 ⟨rfl, hs1, hm1⟩
 obtain ⟨k1, p1, wn⟩ := st_nxt K6.out P6.out M6.out hs1 hm1
 have K1 := Li k1
 have P1 := Li p1
 have M1 := Li hm1
 have WT2 := Li wn
 clear hs1 hm1 k1 p1 wn
 refine hK.out _ _ ?_ (fun hHeld => ?_)
 · (try dsimp only)
   with_reducible first | exact KS.out _ _ _ K6.out | exact KS.out _ _ _ K1.out | exact KS.out _ _ _ K2.out | fail
 clear hK K
 try simp only [Act.put, sA, s0, s1]
 refine tkA 10 ?_
 refine tkA 11 ?_
 refine tkA 12 ?_
 refine tkA 13 ?_
 refine tkA 14 ?_
 refine tkA 15 ?_
 refine tkA 16 ?_
 refine tkA 17 ?_
 refine tkA 18 ?_
 refine tkA 19 ?_
 refine tkA 20 ?_
 refine tkA 21 ?_
 refine tkU 22 ?_
 refine tkU 23 ?_
 refine tkU 24 ?_
 refine tkU 25 ?_
 refine tkU 26 ?_
 refine tkU 27 ?_
 refine tkU 28 ?_
 refine tkU 29 ?_
 refine tkU 30 ?_
 refine tkA 31 ?_
 refine wpAnyH_ready (rs := [32]) (by kernel_rfl) (by simp) ?_
 refine AllReadyH.cons (o := _) (by simp only [List.getElem?_toArray, List.getElem?_cons_zero, List.getElem?_cons_succ]; rfl) (fun K hK => ?_) AllReadyH.nil
 go_simp
 go_at_call 36
 with_reducible refine WT2.out.mono ?_
 rintro e wt2 ⟨rfl, hs2, hm2⟩
 obtain ⟨k2, p2, wn⟩ := st_nxt K1.out P1.out M1.out hs2 hm2
 have K2 := Li k2
 have P2 := Li p2
 have M2 := Li hm2
 clear hs2 hm2 k2 p2 wn
 refine hK.out _ _ ?_ (fun hHeld => ?_)
 · (try dsimp only)
   with_reducible first | exact KS.out _ _ _ K6.out | exact KS.out _ _ _ K1.out | exact KS.out _ _ _ K2.out | fail
 clear hK K
 try simp only [Act.put, sA, s0, s1]
 refine tkA 33 ?_
 refine tkA 34 ?_
 refine wpAnyH_done (by kernel_rfl) ?_ _
 refine NoPanic.normal ?_
 try simp only [Act.put, sA, s0, s1]
 have q0 := K2.out.hmb.cell 0 (by simp)
 have s0 := K2.out.hsb.cell 0 (by simp)
 have s1 := K2.out.hsb.cell 1 (by simp)
 have s2 := K2.out.hsb.cell 2 (by simp)
 have s3 := K2.out.hsb.cell 3 (by simp)
 have s4 := K2.out.hsb.cell 4 (by simp)
 have s5 := K2.out.hsb.cell 5 (by simp)
 have s6 := K2.out.hsb.cell 6 (by simp)
 have s7 := K2.out.hsb.cell 7 (by simp)
 have hst2 := K2.out.hs.size
 have HO2 : Hid (Old R B wt2) := Li (HO.out.below ((K2.out.hs.below (H := H) (by omega) (by omega) (by omega) (by omega)).mono hBH))
 clear KS WT1 K6 M6 P6
 have A0 : Hid (Acc H bm bi bf q pb (w.heap.size + 1) ln 42 [.int .i64 2, .int .i64 op, .string tx, .slice na nm.length nc, .slice sa 2 sc, .slice pa 0 pc, .slice ba 0 bc, .slice ea 0 ec] wt2 1 bi bf wt2) := Li ⟨P2.out, K2.out.hsb, Stp.refl _ _ _ _ _, M2.out.to (by omega) (by omega) (by omega), by omega, fr_stmt⟩
 have hce : ctEs [x, y] + 1 = ctS (Tr.mk 2 op tx v nm [x, y] [] [] []) := by rw [ctS_mk]; simp <;> omega
 have HCE := Li hce
 have EX := Li (mexprs_of (l := [x, y]) (H := H) (bm := bm) (fun t _ => mex_any R B H bm t) (by simp; exact ⟨okx, oky⟩) sa sc wt2 bi bf (q + 1) HXA.out HO2.out hBH A0.out.hm (by have := HQ.out; omega) (by simp))
 clear hce
 go_wp2_with fail
 refine EX.out.mono ?_
 rintro e w7 h7
 obtain ⟨la, lc, vs1, c7, bi7, bf7, rfl, hvl1, hA1, _, hR1, hN1, hc7⟩ := A0.out.row h7
 have s0' := hA1.he.cell 0 (by simp)
 have s1' := hA1.he.cell 1 (by simp)
 have A1 := Li hA1
 have N1 := Li hN1
 have R1 := Li hR1
 have K7 : Hid (w7.cell? ⟨w.heap.size, 0, none⟩ = some (.pointer (some ⟨bm, 0, none⟩))) := Li (by
   obtain ⟨_, _, _, _, _, _, _, _, hs7, _⟩ := h7
   exact (K2.out.keep (M2.out.to (q := q + 1) (by omega) (by omega) (by omega)) hs7).hmb.cell 0 (by simp))
 obtain ⟨rb, rfl, hrb, hrc, hrm, hvlr, hrow⟩ := hR1.cells (by simp)
 unfold maxLen at hrm
 obtain ⟨T0, b0, T0', b0', rfl⟩ := hN1.two_of hvl1
 have v0c := hrow 0 _ rfl
 have v1c := hrow 1 _ rfl
 clear hrow hrb hvlr
 clear h7 hA1 hR1 hN1 EX A0
 have hdo : decide ((0 : Int) ≤ op) = true := decide_eq_true ho1
 have hdo2 : decide (op ≤ (10 : Int)) = true := decide_eq_true ho2
 have WTA := Li (want_any H bm bi7 bf7 (q + (1 + ctEs [x, y])) w7 A1.out.hm)
 have q7 : w7.cell? ⟨w.heap.size, 0, none⟩ = some (.pointer (some ⟨bm, 0, none⟩)) := K7.out
 go_wp2_with fail
 with_reducible refine WTA.out.mono ?_
 rintro e w9 ⟨rfl, hs9, hm9⟩
 obtain ⟨hA9, hG9⟩ := A1.out.keep hs9 (k := 0) hm9
 obtain ⟨rb', e9, _, _, _, _, hrow9⟩ := (R1.out.mono hG9).cells (by simp)
 simp only [Option.some.injEq, Addr.mk.injEq, and_true] at e9
 subst e9
 have v0c := hrow9 0 _ rfl
 have v1c := hrow9 1 _ rfl
 have N9 := Li (N1.out.mono hG9)
 have A9 := Li hA9
 have hwi : IntKind.i8.wrap op = op := by simp [IntKind.wrap, IntKind.bits, IntKind.signed]; omega
 have hwi2 : IntKind.i8.wrap (39 + op) = 39 + op := by simp [IntKind.wrap, IntKind.bits, IntKind.signed]; omega
 have HWI := Li hwi
 have HWI2 := Li hwi2
 clear hs9 hm9 hA9 hG9 hrow9 WTA A1 N1 hwi hwi2
 have AD : Hid (Acc H bm bi bf q pb (w.heap.size + 1) ln 42 [.int .i64 2, .int .i64 op, .string tx, .slice na nm.length nc, .slice sa 2 sc, .slice pa 0 pc, .slice ba 0 bc, .slice ea 0 ec] wt2 _ bi7 bf7 w9.drew) := Li A9.out.drew
 have hnd : Nds (Gx w9.drew wt2.heap.size [bi7, bf7]) [.iface T0 (.pointer (some ⟨b0, 0, none⟩)), .iface T0' (.pointer (some ⟨b0', 0, none⟩))] _ _ := N9.out
 have h8' : MPost H bm bi bf q (ctS (Tr.mk 2 op tx v nm [x, y] [] [] [])) (nmS (Tr.mk 2 op tx v nm [x, y] [] [] [])) wt2 (.returned (.iface 100 (.pointer (some ⟨w9.drew.heap.size, 0, none⟩)))) (w9.drew.alloc (.cells #[.pointer none, .pointer (some ⟨bm, 0, none⟩), .int .i32 ln, .int .i32 1, .int .i8 (39 + op), .iface T0 (.pointer (some ⟨b0, 0, none⟩)), .iface T0' (.pointer (some ⟨b0', 0, none⟩))] 104)) := AD.out.fin (L := [.pointer none, .pointer (some ⟨bm, 0, none⟩), .int .i32 ln, .int .i32 1, .int .i8 (39 + op), .iface T0 (.pointer (some ⟨b0, 0, none⟩)), .iface T0' (.pointer (some ⟨b0', 0, none⟩))]) (T := 100) (e := 104) (sl := [(5, .x), (6, .x)]) (by simp [tbl]) (.x 5 _ _ _ rfl (.x 6 _ _ _ rfl .nil)) hnd (by have := HCE.out; omega) (by have := HCE.out; omega) (by rw [nmS_mk]; simp)
 have h8 : MPost H bm bi bf q (ctS (Tr.mk 2 op tx v nm [x, y] [] [] [])) (nmS (Tr.mk 2 op tx v nm [x, y] [] [] [])) wt2 (.returned (.iface 100 (.pointer (some ⟨w9.heap.size, 0, none⟩)))) (w9.alloc (.cells #[.pointer none, .pointer (some ⟨bm, 0, none⟩), .int .i32 ln, .int .i32 1, .int .i8 (39 + op), .iface T0 (.pointer (some ⟨b0, 0, none⟩)), .iface T0' (.pointer (some ⟨b0', 0, none⟩))] 104)).drew := h8'
 clear hnd h8'
 obtain ⟨y9, r1, r2, r3, r4, r5, hfin⟩ := K2.out.close (M2.out.to (q := q + 1) (by omega) (by omega) (by omega)) h8 hc0 (by have := HCT.out; omega) (by omega)
 have FIN := Li hfin
 clear h8
 have KS : Hid (∀ W n' bi' bf', Acc H bm bi bf q pb (w.heap.size + 1) ln 42 [.int .i64 2, .int .i64 op, .string tx, .slice na nm.length nc, .slice sa 2 sc, .slice pa 0 pc, .slice ba 0 bc, .slice ea 0 ec] wt2 n' bi' bf' W → W.cell? ⟨rb, 0, none⟩ = some (.iface T0 (.pointer (some ⟨b0, 0, none⟩))) → W.cell? ⟨rb, 1, none⟩ = some (.iface T0' (.pointer (some ⟨b0', 0, none⟩))) → W.cell? ⟨rb, 0, none⟩ = some (.iface T0 (.pointer (some ⟨b0, 0, none⟩))) ∧ W.cell? ⟨rb, 1, none⟩ = some (.iface T0' (.pointer (some ⟨b0', 0, none⟩))) ∧ W.cell? ⟨pb, 0, none⟩ = some (.pointer (some ⟨bm, 0, none⟩)) ∧ W.cell? ⟨pb, 1, none⟩ = some (.int .i32 ln) ∧ W.cell? ⟨pb, 2, none⟩ = some (.int .i32 1) ∧ W.cell? ⟨w.heap.size + 1, 1, none⟩ = some (.int .i64 op)) := Li (fun W n' bi' bf' h h1 h2 => ⟨h1, h2, h.hp.cell 0 (by simp), h.hp.cell 1 (by simp), h.hp.cell 2 (by simp), h.he.cell 1 (by simp)⟩)
 have v0d : w9.drew.cell? ⟨rb, 0, none⟩ = some (.iface T0 (.pointer (some ⟨b0, 0, none⟩))) := v0c
 have v1d : w9.drew.cell? ⟨rb, 1, none⟩ = some (.iface T0' (.pointer (some ⟨b0', 0, none⟩))) := v1c
 have hbx : Below w9.drew.heap.size w9.drew (w9.drew.alloc (.cells #[.pointer none, .pointer (some ⟨bm, 0, none⟩), .int .i32 ln, .int .i32 1, .int .i8 (39 + op), .iface T0 (.pointer (some ⟨b0, 0, none⟩)), .iface T0' (.pointer (some ⟨b0', 0, none⟩))] 104)) := (Below.refl _ _).alloc (Nat.le_refl _) _
 have AE : Hid (Acc H bm bi bf q pb (w.heap.size + 1) ln 42 [.int .i64 2, .int .i64 op, .string tx, .slice na nm.length nc, .slice sa 2 sc, .slice pa 0 pc, .slice ba 0 bc, .slice ea 0 ec] wt2 _ bi7 bf7 (w9.alloc (.cells #[.pointer none, .pointer (some ⟨bm, 0, none⟩), .int .i32 ln, .int .i32 1, .int .i8 (39 + op), .iface T0 (.pointer (some ⟨b0, 0, none⟩)), .iface T0' (.pointer (some ⟨b0', 0, none⟩))] 104)).drew) := Li (AD.out.keep (Stp.of_below hbx) (k := 0) (AD.out.hm.below hbx)).1
 have v0e : (w9.alloc (.cells #[.pointer none, .pointer (some ⟨bm, 0, none⟩), .int .i32 ln, .int .i32 1, .int .i8 (39 + op), .iface T0 (.pointer (some ⟨b0, 0, none⟩)), .iface T0' (.pointer (some ⟨b0', 0, none⟩))] 104)).drew.cell? ⟨rb, 0, none⟩ = some (.iface T0 (.pointer (some ⟨b0, 0, none⟩))) := (hbx.cell (p := ⟨rb, 0, none⟩) (lt_of_cell v0d)).trans v0d
 have v1e : (w9.alloc (.cells #[.pointer none, .pointer (some ⟨bm, 0, none⟩), .int .i32 ln, .int .i32 1, .int .i8 (39 + op), .iface T0 (.pointer (some ⟨b0, 0, none⟩)), .iface T0' (.pointer (some ⟨b0', 0, none⟩))] 104)).drew.cell? ⟨rb, 1, none⟩ = some (.iface T0' (.pointer (some ⟨b0', 0, none⟩))) := (hbx.cell (p := ⟨rb, 1, none⟩) (lt_of_cell v1d)).trans v1d
 clear hbx
 have hwi := HWI.out
 have hwi2 := HWI2.out
 go_upto_region 31 with fail
 go_region_held3 (fun W => W.cell? ⟨rb, 0, none⟩ = some (.iface T0 (.pointer (some ⟨b0, 0, none⟩))) ∧ W.cell? ⟨rb, 1, none⟩ = some (.iface T0' (.pointer (some ⟨b0', 0, none⟩))) ∧ W.cell? ⟨pb, 0, none⟩ = some (.pointer (some ⟨bm, 0, none⟩)) ∧ W.cell? ⟨pb, 1, none⟩ = some (.int .i32 ln) ∧ W.cell? ⟨pb, 2, none⟩ = some (.int .i32 1) ∧ W.cell? ⟨w.heap.size + 1, 1, none⟩ = some (.int .i64 op)) (with_reducible first | exact KS.out _ _ _ _ AD.out v0d v1d | exact KS.out _ _ _ _ AE.out v0e v1e | fail) (fail)
 go_wp2_with fail
 refine leaves_cons (f := 34) (args := #[.pointer (some ⟨w.heap.size + 1 + 1, 0, none⟩), .pointer (some ⟨w.heap.size, 0, none⟩)]) (by simp) (by kernel_rfl) ?_
 refine (line_deferred .returning _ bm _ _ (cnt + 1) y9 r1 r2 r3 r4 r5).mono ?_
 rintro e u' w'' ⟨rfl, rfl, rfl⟩
 refine ⟨_, ?_, FIN.out⟩
 simp [results, Tryz.results28, go_sem]
set_option maxHeartbeats 12800000 in
theorem mst_k3 {R : Nat → Nat → Option Value} {B H bm : Nat} (op : Int) (tx : ByteArray) (v : VV) (nm : List ByteArray) (b : List Tr) (c : List Tr) (na sa pa ba ea : Option Addr) (nc sc pc bc ec : Nat) (w : World) (bi bf q : Nat) (okb : ∀ p ∈ b, OkP p) (hcn : c ≠ []) (HC : ∀ t ∈ c, MSt R B H bm t ∧ OkS t ∧ PlS t) (hpa : PaL R b (.slice pa b.length pc)) (hsc : StL R c (.slice ba c.length bc)) (ho : Old R B w) (hBH : B ≤ H) (hm : MK w H bm bi bf q) (hq : q + ctS (Tr.mk 3 op tx v nm [] b c []) ≤ 8192) :
   Calls Tryz.prog 28 #[.pointer (some ⟨bm, 0, none⟩), .agg #[.int .i64 3, .int .i64 op, .string tx, .slice na nm.length nc, .slice sa 0 sc, .slice pa b.length pc, .slice ba c.length bc, .slice ea 0 ec]] w (MPost H bm bi bf q (ctS (Tr.mk 3 op tx v nm [] b c [])) (nmS (Tr.mk 3 op tx v nm [] b c [])) w) := by
 have hmf : ∀ (fn : Fn) (first cap : Array Value) (w : World), (Instr.makeFunc fn first cap).run Tryz.prog w = .ok (.func fn first cap) w := fun _ _ _ _ => rfl
 have HM := Li hm
 obtain ⟨nm0, cnt, line, vi, vf, ni, nf, xi, xf, hk, hi, hf, hqq, e1, e2, hH⟩ := hm
 have hl := HM.out.lts
 have c1 := hk.cell 1 (by simp)
 have f1 := hk.free 1
 have hct : 1 ≤ ctS (Tr.mk 3 op tx v nm [] b c []) := by rw [ctS_mk]; omega
 have hcn1 : cnt + 1 ≤ 2147483647 := by omega
 have hc0 : 0 ≤ cnt + 1 := by omega
 have hcq : cnt + 1 ≤ (q : Int) + 1 := by omega
 have hk3 : Blk ((((w.setCell ⟨bm, 1, none⟩ (.int .i32 (cnt + 1))).alloc (.cells #[.pointer (some ⟨bm, 0, none⟩)] 50)).alloc (.cells #[.int .i64 3, .int .i64 op, .string tx, .slice na nm.length nc, .slice sa 0 sc, .slice pa b.length pc, .slice ba c.length bc, .slice ea 0 ec] 42)).alloc (.cells #[.int .i32 (cnt + 1)] 21)) bm 83 _ := (((hk.set 1 (.int .i32 (cnt + 1))).alloc _).alloc _).alloc _
 have c2a := hk3.cell 2 (by simp)
 have f2a := hk3.free 2
 obtain ⟨hm5, hk5⟩ := st_start (SS := [.int .i64 3, .int .i64 op, .string tx, .slice na nm.length nc, .slice sa 0 sc, .slice pa b.length pc, .slice ba c.length bc, .slice ea 0 ec]) HM.out hc0 hcq
 have m0 := cell_under (hk5.hmb.cell 0 (by simp)) (by simp [World.setCell]; omega)
 have HPOS := Li (pos_any H bm bi bf (q + 1) _ (hm5.to (by omega) (by omega) (by omega)))
 have M5 := Li hm5
 have K5 := Li hk5
 have HO := Li ho
 have HQ := Li hq
 have HCT := Li hct
 have HOKB := Li okb
 have HCN := Li hcn
 have HCC := Li HC
 have HPA := Li hpa
 have HSC := Li hsc
 clear okb hcn HC hpa hsc
 clear hk hi hf hqq e1 e2 hk3 hm5 hk5 ho hq hct
 go_enter_defers Tryz.func28, Tryz.ntmps28
 go_wp2_with fail
 refine HPOS.out.mono ?_
 rintro e w6 ⟨ln, rfl, hb6⟩
 clear HPOS m0 c2a f2a
 obtain ⟨pb, hpb⟩ : ∃ pb, w6.heap.size = pb := ⟨_, rfl⟩
 have hbp := hb6.alloc hb6.size (.cells #[.pointer (some ⟨bm, 0, none⟩), .int .i32 ln, .int .i32 1] 63)
 have hpk : Blk (w6.alloc (.cells #[.pointer (some ⟨bm, 0, none⟩), .int .i32 ln, .int .i32 1] 63)) pb 63 [.pointer (some ⟨bm, 0, none⟩), .int .i32 ln, .int .i32 1] := by rw [← hpb]; exact Blk.new w6 _ _
 have M6 : Hid (MK3 (w6.alloc (.cells #[.pointer (some ⟨bm, 0, none⟩), .int .i32 ln, .int .i32 1] 63)).drew H bm bi bf q q (q + 1)) := Li (show MK3 (w6.alloc (.cells #[.pointer (some ⟨bm, 0, none⟩), .int .i32 ln, .int .i32 1] 63)) H bm bi bf q q (q + 1) from M5.out.below hbp)
 have K6' := K5.out.keep (M5.out.to (q := q + 1) (by omega) (by omega) (by omega)) (Stp.of_below hbp)
 have K6 : Hid (StK H bm (cnt + 1) [.int .i64 3, .int .i64 op, .string tx, .slice na nm.length nc, .slice sa 0 sc, .slice pa b.length pc, .slice ba c.length bc, .slice ea 0 ec] w (w6.alloc (.cells #[.pointer (some ⟨bm, 0, none⟩), .int .i32 ln, .int .i32 1] 63)).drew bi bf bi bf) := Li ⟨K6'.hmb, K6'.hsb, K6'.hob, K6'.hfb, K6'.hs.drew⟩
 have P6 : Hid (Blk (w6.alloc (.cells #[.pointer (some ⟨bm, 0, none⟩), .int .i32 ln, .int .i32 1] 63)).drew pb 63 [.pointer (some ⟨bm, 0, none⟩), .int .i32 ln, .int .i32 1]) := Li hpk
 have WT1 := Li (want3_any H bm bi bf q q (q + 1) (w6.alloc (.cells #[.pointer (some ⟨bm, 0, none⟩), .int .i32 ln, .int .i32 1] 63)).drew M6.out)
 have KS : Hid (∀ W bi' bf', StK H bm (cnt + 1) [.int .i64 3, .int .i64 op, .string tx, .slice na nm.length nc, .slice sa 0 sc, .slice pa b.length pc, .slice ba c.length bc, .slice ea 0 ec] w W bi bf bi' bf' → W.cell? ⟨w.heap.size, 0, none⟩ = some (.pointer (some ⟨bm, 0, none⟩)) ∧ W.cell? ⟨w.heap.size + 1, 0, none⟩ = some (.int .i64 3) ∧ W.cell? ⟨w.heap.size + 1, 4, none⟩ = some (.slice sa 0 sc) ∧ W.cell? ⟨w.heap.size + 1 + 1 + 1, 3, none⟩ = some (.int .i64 0)) := Li (fun W bi' bf' h => ⟨h.hmb.cell 0 (by simp), h.hsb.cell 0 (by simp), h.hsb.cell 4 (by simp), h.hfb.cell 3 (by simp)⟩)
 clear hb6 hbp hpk K6' K5 M5
 go_upto_region 7 with fail
 refine wp_region_noPanic ?_
 refine wp_region_held_drew (S := fun W => W.cell? ⟨w.heap.size, 0, none⟩ = some (.pointer (some ⟨bm, 0, none⟩)) ∧ W.cell? ⟨w.heap.size + 1, 0, none⟩ = some (.int .i64 3) ∧ W.cell? ⟨w.heap.size + 1, 4, none⟩ = some (.slice sa 0 sc) ∧ W.cell? ⟨w.heap.size + 1 + 1 + 1, 3, none⟩ = some (.int .i64 0)) (by kernel_rfl) ?_ (fun hHeld => ?_)
 · (try dsimp only)
   with_reducible first | exact KS.out _ _ _ K6.out | exact KS.out _ _ _ K1.out | exact KS.out _ _ _ K2.out | fail
 refine tkA 0 ?_
 refine tkA 1 ?_
 refine tkA 2 ?_
 refine tkA 3 ?_
 refine tkA 4 ?_
 refine tkA 5 ?_
 refine tkA 6 ?_
 refine tkA 7 ?_
 refine tkA 8 ?_
 refine wpAnyH_ready (rs := [9]) (by kernel_rfl) (by simp) ?_
 refine AllReadyH.cons (o := _) (by simp only [List.getElem?_toArray, List.getElem?_cons_zero, List.getElem?_cons_succ]; rfl) (fun K hK => ?_) AllReadyH.nil
 go_simp
 go_at_call 36
 with_reducible refine WT1.out.mono ?_
 rintro e wt1 ⟨rfl, hs1, hm1⟩
 obtain ⟨k1, p1, wn⟩ := st_nxt K6.out P6.out M6.out hs1 hm1
 have K1 := Li k1
 have P1 := Li p1
 have M1 := Li hm1
 have WT2 := Li wn
 clear hs1 hm1 k1 p1 wn
 refine hK.out _ _ ?_ (fun hHeld => ?_)
 · (try dsimp only)
   with_reducible first | exact KS.out _ _ _ K6.out | exact KS.out _ _ _ K1.out | exact KS.out _ _ _ K2.out | fail
 clear hK K
 try simp only [Act.put, sA, s0, s1]
 refine tkA 10 ?_
 refine tkA 11 ?_
 refine tkA 12 ?_
 refine tkA 13 ?_
 refine tkA 14 ?_
 refine tkA 15 ?_
 refine tkA 16 ?_
 refine tkA 17 ?_
 refine tkA 18 ?_
 refine tkA 19 ?_
 refine tkA 20 ?_
 refine tkA 21 ?_
 refine tkU 22 ?_
 refine tkU 23 ?_
 refine tkU 24 ?_
 refine tkU 25 ?_
 refine tkU 26 ?_
 refine tkU 27 ?_
 refine tkU 28 ?_
 refine tkU 29 ?_
 refine tkU 30 ?_
 refine tkA 31 ?_
 refine wpAnyH_ready (rs := [32]) (by kernel_rfl) (by simp) ?_
 refine AllReadyH.cons (o := _) (by simp only [List.getElem?_toArray, List.getElem?_cons_zero, List.getElem?_cons_succ]; rfl) (fun K hK => ?_) AllReadyH.nil
 go_simp
 go_at_call 36
 with_reducible refine WT2.out.mono ?_
 rintro e wt2 ⟨rfl, hs2, hm2⟩
 obtain ⟨k2, p2, wn⟩ := st_nxt K1.out P1.out M1.out hs2 hm2
 have K2 := Li k2
 have P2 := Li p2
 have M2 := Li hm2
 clear hs2 hm2 k2 p2 wn
 refine hK.out _ _ ?_ (fun hHeld => ?_)
 · (try dsimp only)
   with_reducible first | exact KS.out _ _ _ K6.out | exact KS.out _ _ _ K1.out | exact KS.out _ _ _ K2.out | fail
 clear hK K
 try simp only [Act.put, sA, s0, s1]
 refine tkA 33 ?_
 refine tkA 34 ?_
 refine wpAnyH_done (by kernel_rfl) ?_ _
 refine NoPanic.normal ?_
 try simp only [Act.put, sA, s0, s1]
 have q0 := K2.out.hmb.cell 0 (by simp)
 have s0 := K2.out.hsb.cell 0 (by simp)
 have s1 := K2.out.hsb.cell 1 (by simp)
 have s2 := K2.out.hsb.cell 2 (by simp)
 have s3 := K2.out.hsb.cell 3 (by simp)
 have s4 := K2.out.hsb.cell 4 (by simp)
 have s5 := K2.out.hsb.cell 5 (by simp)
 have s6 := K2.out.hsb.cell 6 (by simp)
 have s7 := K2.out.hsb.cell 7 (by simp)
 have hst2 := K2.out.hs.size
 have HO2 : Hid (Old R B wt2) := Li (HO.out.below ((K2.out.hs.below (H := H) (by omega) (by omega) (by omega) (by omega)).mono hBH))
 clear KS WT1 K6 M6 P6
 have CL := Li (def_any op tx v nm b c na sa pa ba ea nc sc pc bc ec wt2 bi bf q HOKB.out HCN.out HCC.out HPA.out HSC.out HO2.out hBH M2.out HQ.out)
 go_wp2_with fail
 refine CL.out.mono ?_
 rintro e w8 h8
 obtain ⟨T8, b8, rfl⟩ := h8.ret
 obtain ⟨y9, r1, r2, r3, r4, r5, hfin⟩ := K2.out.close (M2.out.to (q := q + 1) (by omega) (by omega) (by omega)) h8 hc0 (by have := HCT.out; omega) (by omega)
 have FIN := Li hfin
 clear h8
 clear CL
 go_wp2_with fail
 refine leaves_cons (f := 34) (args := #[.pointer (some ⟨w.heap.size + 1 + 1, 0, none⟩), .pointer (some ⟨w.heap.size, 0, none⟩)]) (by simp) (by kernel_rfl) ?_
 refine (line_deferred .returning _ bm _ _ (cnt + 1) y9 r1 r2 r3 r4 r5).mono ?_
 rintro e u' w'' ⟨rfl, rfl, rfl⟩
 refine ⟨_, ?_, FIN.out⟩
 simp [results, Tryz.results28, go_sem]
set_option maxHeartbeats 12800000 in
theorem mst_k4 {R : Nat → Nat → Option Value} {B H bm : Nat} (op : Int) (tx : ByteArray) (v : VV) (nm : List ByteArray) (x : Tr) (c : List Tr) (d : List Tr) (na sa pa ba ea : Option Addr) (nc sc pc bc ec : Nat) (w : World) (bi bf q : Nat) (okx : OkE x) (hcn : c ≠ []) (HC : ∀ t ∈ c, MSt R B H bm t ∧ OkS t ∧ PlS t) (HD : ∀ t ∈ d, MSt R B H bm t ∧ OkS t ∧ PlS t) (hxa : ExL R [x] (.slice sa 1 sc)) (hsc : StL R c (.slice ba c.length bc)) (hsd : StL R d (.slice ea d.length ec)) (ho : Old R B w) (hBH : B ≤ H) (hm : MK w H bm bi bf q) (hq : q + ctS (Tr.mk 4 op tx v nm [x] [] c d) ≤ 8192) :
   Calls Tryz.prog 28 #[.pointer (some ⟨bm, 0, none⟩), .agg #[.int .i64 4, .int .i64 op, .string tx, .slice na nm.length nc, .slice sa 1 sc, .slice pa 0 pc, .slice ba c.length bc, .slice ea d.length ec]] w (MPost H bm bi bf q (ctS (Tr.mk 4 op tx v nm [x] [] c d)) (nmS (Tr.mk 4 op tx v nm [x] [] c d)) w) := by
 have hmf : ∀ (fn : Fn) (first cap : Array Value) (w : World), (Instr.makeFunc fn first cap).run Tryz.prog w = .ok (.func fn first cap) w := fun _ _ _ _ => rfl
 have HM := Li hm
 obtain ⟨nm0, cnt, line, vi, vf, ni, nf, xi, xf, hk, hi, hf, hqq, e1, e2, hH⟩ := hm
 have hl := HM.out.lts
 have c1 := hk.cell 1 (by simp)
 have f1 := hk.free 1
 have hct : 1 ≤ ctS (Tr.mk 4 op tx v nm [x] [] c d) := by rw [ctS_mk]; omega
 have hcn1 : cnt + 1 ≤ 2147483647 := by omega
 have hc0 : 0 ≤ cnt + 1 := by omega
 have hcq : cnt + 1 ≤ (q : Int) + 1 := by omega
 have hk3 : Blk ((((w.setCell ⟨bm, 1, none⟩ (.int .i32 (cnt + 1))).alloc (.cells #[.pointer (some ⟨bm, 0, none⟩)] 50)).alloc (.cells #[.int .i64 4, .int .i64 op, .string tx, .slice na nm.length nc, .slice sa 1 sc, .slice pa 0 pc, .slice ba c.length bc, .slice ea d.length ec] 42)).alloc (.cells #[.int .i32 (cnt + 1)] 21)) bm 83 _ := (((hk.set 1 (.int .i32 (cnt + 1))).alloc _).alloc _).alloc _
 have c2a := hk3.cell 2 (by simp)
 have f2a := hk3.free 2
 obtain ⟨hm5, hk5⟩ := st_start (SS := [.int .i64 4, .int .i64 op, .string tx, .slice na nm.length nc, .slice sa 1 sc, .slice pa 0 pc, .slice ba c.length bc, .slice ea d.length ec]) HM.out hc0 hcq
 have m0 := cell_under (hk5.hmb.cell 0 (by simp)) (by simp [World.setCell]; omega)
 have HPOS := Li (pos_any H bm bi bf (q + 1) _ (hm5.to (by omega) (by omega) (by omega)))
 have M5 := Li hm5
 have K5 := Li hk5
 have HO := Li ho
 have HQ := Li hq
 have HCT := Li hct
 have HCN := Li hcn
 have HCC := Li HC
 have HDD := Li HD
 have HXA := Li hxa
 have HSC := Li hsc
 have HSD := Li hsd
 clear hcn HC HD hxa hsc hsd
 clear hk hi hf hqq e1 e2 hk3 hm5 hk5 ho hq hct
 go_enter_defers Tryz.func28, Tryz.ntmps28
 go_wp2_with fail
 refine HPOS.out.mono ?_
 rintro e w6 ⟨ln, rfl, hb6⟩
 clear HPOS m0 c2a f2a
 obtain ⟨pb, hpb⟩ : ∃ pb, w6.heap.size = pb := ⟨_, rfl⟩
 have hbp := hb6.alloc hb6.size (.cells #[.pointer (some ⟨bm, 0, none⟩), .int .i32 ln, .int .i32 1] 63)
 have hpk : Blk (w6.alloc (.cells #[.pointer (some ⟨bm, 0, none⟩), .int .i32 ln, .int .i32 1] 63)) pb 63 [.pointer (some ⟨bm, 0, none⟩), .int .i32 ln, .int .i32 1] := by rw [← hpb]; exact Blk.new w6 _ _
 have M6 : Hid (MK3 (w6.alloc (.cells #[.pointer (some ⟨bm, 0, none⟩), .int .i32 ln, .int .i32 1] 63)).drew H bm bi bf q q (q + 1)) := Li (show MK3 (w6.alloc (.cells #[.pointer (some ⟨bm, 0, none⟩), .int .i32 ln, .int .i32 1] 63)) H bm bi bf q q (q + 1) from M5.out.below hbp)
 have K6' := K5.out.keep (M5.out.to (q := q + 1) (by omega) (by omega) (by omega)) (Stp.of_below hbp)
 have K6 : Hid (StK H bm (cnt + 1) [.int .i64 4, .int .i64 op, .string tx, .slice na nm.length nc, .slice sa 1 sc, .slice pa 0 pc, .slice ba c.length bc, .slice ea d.length ec] w (w6.alloc (.cells #[.pointer (some ⟨bm, 0, none⟩), .int .i32 ln, .int .i32 1] 63)).drew bi bf bi bf) := Li ⟨K6'.hmb, K6'.hsb, K6'.hob, K6'.hfb, K6'.hs.drew⟩
 have P6 : Hid (Blk (w6.alloc (.cells #[.pointer (some ⟨bm, 0, none⟩), .int .i32 ln, .int .i32 1] 63)).drew pb 63 [.pointer (some ⟨bm, 0, none⟩), .int .i32 ln, .int .i32 1]) := Li hpk
 have WT1 := Li (want3_any H bm bi bf q q (q + 1) (w6.alloc (.cells #[.pointer (some ⟨bm, 0, none⟩), .int .i32 ln, .int .i32 1] 63)).drew M6.out)
 have KS : Hid (∀ W bi' bf', StK H bm (cnt + 1) [.int .i64 4, .int .i64 op, .string tx, .slice na nm.length nc, .slice sa 1 sc, .slice pa 0 pc, .slice ba c.length bc, .slice ea d.length ec] w W bi bf bi' bf' → W.cell? ⟨w.heap.size, 0, none⟩ = some (.pointer (some ⟨bm, 0, none⟩)) ∧ W.cell? ⟨w.heap.size + 1, 0, none⟩ = some (.int .i64 4) ∧ W.cell? ⟨w.heap.size + 1, 4, none⟩ = some (.slice sa 1 sc) ∧ W.cell? ⟨w.heap.size + 1 + 1 + 1, 4, none⟩ = some (.int .i64 1)) := Li (fun W bi' bf' h => ⟨h.hmb.cell 0 (by simp), h.hsb.cell 0 (by simp), h.hsb.cell 4 (by simp), h.hfb.cell 4 (by simp)⟩)
 clear hb6 hbp hpk K6' K5 M5
 go_upto_region 7 with fail
 refine wp_region_noPanic ?_
 refine wp_region_held_drew (S := fun W => W.cell? ⟨w.heap.size, 0, none⟩ = some (.pointer (some ⟨bm, 0, none⟩)) ∧ W.cell? ⟨w.heap.size + 1, 0, none⟩ = some (.int .i64 4) ∧ W.cell? ⟨w.heap.size + 1, 4, none⟩ = some (.slice sa 1 sc) ∧ W.cell? ⟨w.heap.size + 1 + 1 + 1, 4, none⟩ = some (.int .i64 1)) (by kernel_rfl) ?_ (fun hHeld => ?_)
 · (try dsimp only)
   with_reducible first | exact KS.out _ _ _ K6.out | exact KS.out _ _ _ K1.out | exact KS.out _ _ _ K2.out | fail
 refine tkA 0 ?_
 refine tkA 1 ?_
 refine tkA 2 ?_
 refine tkA 3 ?_
 refine tkA 4 ?_
 refine tkA 5 ?_
 refine tkA 6 ?_
 refine tkA 7 ?_
 refine tkA 8 ?_
 refine wpAnyH_ready (rs := [9]) (by kernel_rfl) (by simp) ?_
 refine AllReadyH.cons (o := _) (by simp only [List.getElem?_toArray, List.getElem?_cons_zero, List.getElem?_cons_succ]; rfl) (fun K hK => ?_) AllReadyH.nil
 go_simp
 go_at_call 36
 with_reducible refine WT1.out.mono ?_
 rintro e wt1 ⟨rfl, hs1, hm1⟩
 obtain ⟨k1, p1, wn⟩ := st_nxt K6.out P6.out M6.out hs1 hm1
 have K1 := Li k1
 have P1 := Li p1
 have M1 := Li hm1
 have WT2 := Li wn
 clear hs1 hm1 k1 p1 wn
 refine hK.out _ _ ?_ (fun hHeld => ?_)
 · (try dsimp only)
   with_reducible first | exact KS.out _ _ _ K6.out | exact KS.out _ _ _ K1.out | exact KS.out _ _ _ K2.out | fail
 clear hK K
 try simp only [Act.put, sA, s0, s1]
 refine tkA 10 ?_
 refine tkA 11 ?_
 refine tkA 12 ?_
 refine tkA 13 ?_
 refine tkA 14 ?_
 refine tkA 15 ?_
 refine tkA 16 ?_
 refine tkA 17 ?_
 refine tkA 18 ?_
 refine tkA 19 ?_
 refine tkA 20 ?_
 refine tkA 21 ?_
 refine tkU 22 ?_
 refine tkU 23 ?_
 refine tkU 24 ?_
 refine tkU 25 ?_
 refine tkU 26 ?_
 refine tkU 27 ?_
 refine tkU 28 ?_
 refine tkU 29 ?_
 refine tkU 30 ?_
 refine tkA 31 ?_
 refine wpAnyH_ready (rs := [32]) (by kernel_rfl) (by simp) ?_
 refine AllReadyH.cons (o := _) (by simp only [List.getElem?_toArray, List.getElem?_cons_zero, List.getElem?_cons_succ]; rfl) (fun K hK => ?_) AllReadyH.nil
 go_simp
 go_at_call 36
 with_reducible refine WT2.out.mono ?_
 rintro e wt2 ⟨rfl, hs2, hm2⟩
 obtain ⟨k2, p2, wn⟩ := st_nxt K1.out P1.out M1.out hs2 hm2
 have K2 := Li k2
 have P2 := Li p2
 have M2 := Li hm2
 clear hs2 hm2 k2 p2 wn
 refine hK.out _ _ ?_ (fun hHeld => ?_)
 · (try dsimp only)
   with_reducible first | exact KS.out _ _ _ K6.out | exact KS.out _ _ _ K1.out | exact KS.out _ _ _ K2.out | fail
 clear hK K
 try simp only [Act.put, sA, s0, s1]
 refine tkA 33 ?_
 refine tkA 34 ?_
 refine wpAnyH_done (by kernel_rfl) ?_ _
 refine NoPanic.normal ?_
 try simp only [Act.put, sA, s0, s1]
 have q0 := K2.out.hmb.cell 0 (by simp)
 have s0 := K2.out.hsb.cell 0 (by simp)
 have s1 := K2.out.hsb.cell 1 (by simp)
 have s2 := K2.out.hsb.cell 2 (by simp)
 have s3 := K2.out.hsb.cell 3 (by simp)
 have s4 := K2.out.hsb.cell 4 (by simp)
 have s5 := K2.out.hsb.cell 5 (by simp)
 have s6 := K2.out.hsb.cell 6 (by simp)
 have s7 := K2.out.hsb.cell 7 (by simp)
 have hst2 := K2.out.hs.size
 have HO2 : Hid (Old R B wt2) := Li (HO.out.below ((K2.out.hs.below (H := H) (by omega) (by omega) (by omega) (by omega)).mono hBH))
 clear KS WT1 K6 M6 P6
 have CL := Li (compound_k4 op tx v nm x c d na sa pa ba ea nc sc pc bc ec wt2 bi bf q okx HCN.out HCC.out HDD.out HXA.out HSC.out HSD.out HO2.out hBH (M2.out.to (by omega) (by omega) (by omega)) HQ.out)
 go_wp2_with fail
 refine CL.out.mono ?_
 rintro e w8 h8
 obtain ⟨T8, b8, rfl⟩ := h8.ret
 obtain ⟨y9, r1, r2, r3, r4, r5, hfin⟩ := K2.out.close (M2.out.to (q := q + 1) (by omega) (by omega) (by omega)) h8 hc0 (by have := HCT.out; omega) (by omega)
 have FIN := Li hfin
 clear h8
 clear CL
 go_wp2_with fail
 refine leaves_cons (f := 34) (args := #[.pointer (some ⟨w.heap.size + 1 + 1, 0, none⟩), .pointer (some ⟨w.heap.size, 0, none⟩)]) (by simp) (by kernel_rfl) ?_
 refine (line_deferred .returning _ bm _ _ (cnt + 1) y9 r1 r2 r3 r4 r5).mono ?_
 rintro e u' w'' ⟨rfl, rfl, rfl⟩
 refine ⟨_, ?_, FIN.out⟩
 simp [results, Tryz.results28, go_sem]
set_option maxHeartbeats 12800000 in
theorem mst_k5 {R : Nat → Nat → Option Value} {B H bm : Nat} (op : Int) (tx : ByteArray) (v : VV) (nm : List ByteArray) (x : Tr) (y : Tr) (c : List Tr) (na sa pa ba ea : Option Addr) (nc sc pc bc ec : Nat) (w : World) (bi bf q : Nat) (okx : OkE x) (oky : OkE y) (hcn : c ≠ []) (HC : ∀ t ∈ c, MSt R B H bm t ∧ OkS t ∧ PlS t) (hxa : ExL R [x, y] (.slice sa 2 sc)) (hsc : StL R c (.slice ba c.length bc)) (ho : Old R B w) (hBH : B ≤ H) (hm : MK w H bm bi bf q) (hq : q + ctS (Tr.mk 5 op tx v nm [x, y] [] c []) ≤ 8192) :
   Calls Tryz.prog 28 #[.pointer (some ⟨bm, 0, none⟩), .agg #[.int .i64 5, .int .i64 op, .string tx, .slice na nm.length nc, .slice sa 2 sc, .slice pa 0 pc, .slice ba c.length bc, .slice ea 0 ec]] w (MPost H bm bi bf q (ctS (Tr.mk 5 op tx v nm [x, y] [] c [])) (nmS (Tr.mk 5 op tx v nm [x, y] [] c [])) w) := by
 have hmf : ∀ (fn : Fn) (first cap : Array Value) (w : World), (Instr.makeFunc fn first cap).run Tryz.prog w = .ok (.func fn first cap) w := fun _ _ _ _ => rfl
 have HM := Li hm
 obtain ⟨nm0, cnt, line, vi, vf, ni, nf, xi, xf, hk, hi, hf, hqq, e1, e2, hH⟩ := hm
 have hl := HM.out.lts
 have c1 := hk.cell 1 (by simp)
 have f1 := hk.free 1
 have hct : 1 ≤ ctS (Tr.mk 5 op tx v nm [x, y] [] c []) := by rw [ctS_mk]; omega
 have hcn1 : cnt + 1 ≤ 2147483647 := by omega
 have hc0 : 0 ≤ cnt + 1 := by omega
 have hcq : cnt + 1 ≤ (q : Int) + 1 := by omega
 have hk3 : Blk ((((w.setCell ⟨bm, 1, none⟩ (.int .i32 (cnt + 1))).alloc (.cells #[.pointer (some ⟨bm, 0, none⟩)] 50)).alloc (.cells #[.int .i64 5, .int .i64 op, .string tx, .slice na nm.length nc, .slice sa 2 sc, .slice pa 0 pc, .slice ba c.length bc, .slice ea 0 ec] 42)).alloc (.cells #[.int .i32 (cnt + 1)] 21)) bm 83 _ := (((hk.set 1 (.int .i32 (cnt + 1))).alloc _).alloc _).alloc _
 have c2a := hk3.cell 2 (by simp)
 have f2a := hk3.free 2
 obtain ⟨hm5, hk5⟩ := st_start (SS := [.int .i64 5, .int .i64 op, .string tx, .slice na nm.length nc, .slice sa 2 sc, .slice pa 0 pc, .slice ba c.length bc, .slice ea 0 ec]) HM.out hc0 hcq
 have m0 := cell_under (hk5.hmb.cell 0 (by simp)) (by simp [World.setCell]; omega)
 have HPOS := Li (pos_any H bm bi bf (q + 1) _ (hm5.to (by omega) (by omega) (by omega)))
 have M5 := Li hm5
 have K5 := Li hk5
 have HO := Li ho
 have HQ := Li hq
 have HCT := Li hct
 have HCN := Li hcn
 have HCC := Li HC
 have HXA := Li hxa
 have HSC := Li hsc
 clear hcn HC hxa hsc
 clear hk hi hf hqq e1 e2 hk3 hm5 hk5 ho hq hct
 go_enter_defers Tryz.func28, Tryz.ntmps28
 go_wp2_with fail
 refine HPOS.out.mono ?_
 rintro e w6 ⟨ln, rfl, hb6⟩
 clear HPOS m0 c2a f2a
 obtain ⟨pb, hpb⟩ : ∃ pb, w6.heap.size = pb := ⟨_, rfl⟩
 have hbp := hb6.alloc hb6.size (.cells #[.pointer (some ⟨bm, 0, none⟩), .int .i32 ln, .int .i32 1] 63)
 have hpk : Blk (w6.alloc (.cells #[.pointer (some ⟨bm, 0, none⟩), .int .i32 ln, .int .i32 1] 63)) pb 63 [.pointer (some ⟨bm, 0, none⟩), .int .i32 ln, .int .i32 1] := by rw [← hpb]; exact Blk.new w6 _ _
 have M6 : Hid (MK3 (w6.alloc (.cells #[.pointer (some ⟨bm, 0, none⟩), .int .i32 ln, .int .i32 1] 63)).drew H bm bi bf q q (q + 1)) := Li (show MK3 (w6.alloc (.cells #[.pointer (some ⟨bm, 0, none⟩), .int .i32 ln, .int .i32 1] 63)) H bm bi bf q q (q + 1) from M5.out.below hbp)
 have K6' := K5.out.keep (M5.out.to (q := q + 1) (by omega) (by omega) (by omega)) (Stp.of_below hbp)
 have K6 : Hid (StK H bm (cnt + 1) [.int .i64 5, .int .i64 op, .string tx, .slice na nm.length nc, .slice sa 2 sc, .slice pa 0 pc, .slice ba c.length bc, .slice ea 0 ec] w (w6.alloc (.cells #[.pointer (some ⟨bm, 0, none⟩), .int .i32 ln, .int .i32 1] 63)).drew bi bf bi bf) := Li ⟨K6'.hmb, K6'.hsb, K6'.hob, K6'.hfb, K6'.hs.drew⟩
 have P6 : Hid (Blk (w6.alloc (.cells #[.pointer (some ⟨bm, 0, none⟩), .int .i32 ln, .int .i32 1] 63)).drew pb 63 [.pointer (some ⟨bm, 0, none⟩), .int .i32 ln, .int .i32 1]) := Li hpk
 have WT1 := Li (want3_any H bm bi bf q q (q + 1) (w6.alloc (.cells #[.pointer (some ⟨bm, 0, none⟩), .int .i32 ln, .int .i32 1] 63)).drew M6.out)
 have KS : Hid (∀ W bi' bf', StK H bm (cnt + 1) [.int .i64 5, .int .i64 op, .string tx, .slice na nm.length nc, .slice sa 2 sc, .slice pa 0 pc, .slice ba c.length bc, .slice ea 0 ec] w W bi bf bi' bf' → W.cell? ⟨w.heap.size, 0, none⟩ = some (.pointer (some ⟨bm, 0, none⟩)) ∧ W.cell? ⟨w.heap.size + 1, 0, none⟩ = some (.int .i64 5) ∧ W.cell? ⟨w.heap.size + 1, 4, none⟩ = some (.slice sa 2 sc) ∧ W.cell? ⟨w.heap.size + 1 + 1 + 1, 5, none⟩ = some (.int .i64 2)) := Li (fun W bi' bf' h => ⟨h.hmb.cell 0 (by simp), h.hsb.cell 0 (by simp), h.hsb.cell 4 (by simp), h.hfb.cell 5 (by simp)⟩)
 clear hb6 hbp hpk K6' K5 M5
 go_upto_region 7 with fail
 refine wp_region_noPanic ?_
 refine wp_region_held_drew (S := fun W => W.cell? ⟨w.heap.size, 0, none⟩ = some (.pointer (some ⟨bm, 0, none⟩)) ∧ W.cell? ⟨w.heap.size + 1, 0, none⟩ = some (.int .i64 5) ∧ W.cell? ⟨w.heap.size + 1, 4, none⟩ = some (.slice sa 2 sc) ∧ W.cell? ⟨w.heap.size + 1 + 1 + 1, 5, none⟩ = some (.int .i64 2)) (by kernel_rfl) ?_ (fun hHeld => ?_)
 · (try dsimp only)
   with_reducible first | exact KS.out _ _ _ K6.out | exact KS.out _ _ _ K1.out | exact KS.out _ _ _ K2.out | fail
 refine tkA 0 ?_
 refine tkA 1 ?_
 refine tkA 2 ?_
 refine tkA 3 ?_
 refine tkA 4 ?_
 refine tkA 5 ?_
 refine tkA 6 ?_
 refine tkA 7 ?_
 refine tkA 8 ?_
 refine wpAnyH_ready (rs := [9]) (by kernel_rfl) (by simp) ?_
 refine AllReadyH.cons (o := _) (by simp only [List.getElem?_toArray, List.getElem?_cons_zero, List.getElem?_cons_succ]; rfl) (fun K hK => ?_) AllReadyH.nil
 go_simp
 go_at_call 36
 with_reducible refine WT1.out.mono ?_
 rintro e wt1 ⟨rfl, hs1, hm1⟩
 obtain ⟨k1, p1, wn⟩ := st_nxt K6.out P6.out M6.out hs1 hm1
 have K1 := Li k1
 have P1 := Li p1
 have M1 := Li hm1
 have WT2 := Li wn
 clear hs1 hm1 k1 p1 wn
 refine hK.out _ _ ?_ (fun hHeld => ?_)
 · (try dsimp only)
   with_reducible first | exact KS.out _ _ _ K6.out | exact KS.out _ _ _ K1.out | exact KS.out _ _ _ K2.out | fail
 clear hK K
 try simp only [Act.put, sA, s0, s1]
 refine tkA 10 ?_
 refine tkA 11 ?_
 refine tkA 12 ?_
 refine tkA 13 ?_
 refine tkA 14 ?_
 refine tkA 15 ?_
 refine tkA 16 ?_
 refine tkA 17 ?_
 refine tkA 18 ?_
 refine tkA 19 ?_
 refine tkA 20 ?_
 refine tkA 21 ?_
 refine tkU 22 ?_
 refine tkU 23 ?_
 refine tkU 24 ?_
 refine tkU 25 ?_
 refine tkU 26 ?_
 refine tkU 27 ?_
 refine tkU 28 ?_
 refine tkU 29 ?_
 refine tkU 30 ?_
 refine tkA 31 ?_
 refine wpAnyH_ready (rs := [32]) (by kernel_rfl) (by simp) ?_
 refine AllReadyH.cons (o := _) (by simp only [List.getElem?_toArray, List.getElem?_cons_zero, List.getElem?_cons_succ]; rfl) (fun K hK => ?_) AllReadyH.nil
 go_simp
 go_at_call 36
 with_reducible refine WT2.out.mono ?_
 rintro e wt2 ⟨rfl, hs2, hm2⟩
 obtain ⟨k2, p2, wn⟩ := st_nxt K1.out P1.out M1.out hs2 hm2
 have K2 := Li k2
 have P2 := Li p2
 have M2 := Li hm2
 clear hs2 hm2 k2 p2 wn
 refine hK.out _ _ ?_ (fun hHeld => ?_)
 · (try dsimp only)
   with_reducible first | exact KS.out _ _ _ K6.out | exact KS.out _ _ _ K1.out | exact KS.out _ _ _ K2.out | fail
 clear hK K
 try simp only [Act.put, sA, s0, s1]
 refine tkA 33 ?_
 refine tkA 34 ?_
 refine wpAnyH_done (by kernel_rfl) ?_ _
 refine NoPanic.normal ?_
 try simp only [Act.put, sA, s0, s1]
 have q0 := K2.out.hmb.cell 0 (by simp)
 have s0 := K2.out.hsb.cell 0 (by simp)
 have s1 := K2.out.hsb.cell 1 (by simp)
 have s2 := K2.out.hsb.cell 2 (by simp)
 have s3 := K2.out.hsb.cell 3 (by simp)
 have s4 := K2.out.hsb.cell 4 (by simp)
 have s5 := K2.out.hsb.cell 5 (by simp)
 have s6 := K2.out.hsb.cell 6 (by simp)
 have s7 := K2.out.hsb.cell 7 (by simp)
 have hst2 := K2.out.hs.size
 have HO2 : Hid (Old R B wt2) := Li (HO.out.below ((K2.out.hs.below (H := H) (by omega) (by omega) (by omega) (by omega)).mono hBH))
 clear KS WT1 K6 M6 P6
 have CL := Li (compound_k5 op tx v nm x y c na sa pa ba ea nc sc pc bc ec wt2 bi bf q okx oky HCN.out HCC.out HXA.out HSC.out HO2.out hBH (M2.out.to (by omega) (by omega) (by omega)) HQ.out)
 go_wp2_with fail
 refine CL.out.mono ?_
 rintro e w8 h8
 obtain ⟨T8, b8, rfl⟩ := h8.ret
 obtain ⟨y9, r1, r2, r3, r4, r5, hfin⟩ := K2.out.close (M2.out.to (q := q + 1) (by omega) (by omega) (by omega)) h8 hc0 (by have := HCT.out; omega) (by omega)
 have FIN := Li hfin
 clear h8
 clear CL
 go_wp2_with fail
 refine leaves_cons (f := 34) (args := #[.pointer (some ⟨w.heap.size + 1 + 1, 0, none⟩), .pointer (some ⟨w.heap.size, 0, none⟩)]) (by simp) (by kernel_rfl) ?_
 refine (line_deferred .returning _ bm _ _ (cnt + 1) y9 r1 r2 r3 r4 r5).mono ?_
 rintro e u' w'' ⟨rfl, rfl, rfl⟩
 refine ⟨_, ?_, FIN.out⟩
 simp [results, Tryz.results28, go_sem]
end Go.Proofs.YtoojgjhfmmohbaaGreat
