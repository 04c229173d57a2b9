/- maker.stmt, a theorem a kind, the later kinds (printed by genwkst5.py). -/
import Derived.Test.YtoojgjhfmmohbaaGreatWkSt3
import Derived.Test.YtoojgjhfmmohbaaGreatMBase
namespace Go.Proofs.YtoojgjhfmmohbaaGreat
open Go.RowKit Dig
set_option linter.unusedVariables false
set_option linter.unusedSimpArgs false
set_option maxRecDepth 100000
set_option maxHeartbeats 12800000 in
theorem mst_k6 {R : Nat → Nat → Option Value} {B H bm : Nat} (op : Int) (tx : ByteArray) (v : VV) (nm : List ByteArray) (x : Tr) (c : List Tr) (na sa pa ba ea : Option Addr) (nc sc pc bc ec : Nat) (w : World) (bi bf q : Nat) (okx : OkE x) (hcn : c ≠ []) (HC : ∀ t ∈ c, MSt R B H bm t ∧ OkS t ∧ PlS t) (hxa : ExL R [x] (.slice sa 1 sc)) (hsc : StL R c (.slice ba c.length bc)) (ho : Old R B w) (hBH : B ≤ H) (hm : MK w H bm bi bf q) (hq : q + ctS (Tr.mk 6 op tx v nm [x] [] c []) ≤ 8192) :
   Calls Tryz.prog 28 #[.pointer (some ⟨bm, 0, none⟩), .agg #[.int .i64 6, .int .i64 op, .string tx, .slice na nm.length nc, .slice sa 1 sc, .slice pa 0 pc, .slice ba c.length bc, .slice ea 0 ec]] w (MPost H bm bi bf q (ctS (Tr.mk 6 op tx v nm [x] [] c [])) (nmS (Tr.mk 6 op tx v nm [x] [] c [])) w) := by
 have hmf : ∀ (fn : Fn) (first cap : Array Value) (w : World), (Instr.makeFunc fn first cap).run Tryz.prog w = .ok (.func fn first cap) w := fun _ _ _ _ => rfl
 have HM := Li hm
 obtain ⟨nm0, cnt, line, vi, vf, ni, nf, xi, xf, hk, hi, hf, hqq, e1, e2, hH⟩ := hm
 have hl := HM.out.lts
 have c1 := hk.cell 1 (by simp)
 have f1 := hk.free 1
 have hct : 1 ≤ ctS (Tr.mk 6 op tx v nm [x] [] c []) := by rw [ctS_mk]; omega
 have hcn1 : cnt + 1 ≤ 2147483647 := by omega
 have hc0 : 0 ≤ cnt + 1 := by omega
 have hcq : cnt + 1 ≤ (q : Int) + 1 := by omega
 have hk3 : Blk ((((w.setCell ⟨bm, 1, none⟩ (.int .i32 (cnt + 1))).alloc (.cells #[.pointer (some ⟨bm, 0, none⟩)] 50)).alloc (.cells #[.int .i64 6, .int .i64 op, .string tx, .slice na nm.length nc, .slice sa 1 sc, .slice pa 0 pc, .slice ba c.length bc, .slice ea 0 ec] 42)).alloc (.cells #[.int .i32 (cnt + 1)] 21)) bm 83 _ := (((hk.set 1 (.int .i32 (cnt + 1))).alloc _).alloc _).alloc _
 have c2a := hk3.cell 2 (by simp)
 have f2a := hk3.free 2
 obtain ⟨hm5, hk5⟩ := st_start (SS := [.int .i64 6, .int .i64 op, .string tx, .slice na nm.length nc, .slice sa 1 sc, .slice pa 0 pc, .slice ba c.length bc, .slice ea 0 ec]) HM.out hc0 hcq
 have m0 := cell_under (hk5.hmb.cell 0 (by simp)) (by simp [World.setCell]; omega)
 have HPOS := Li (pos_any H bm bi bf (q + 1) _ (hm5.to (by omega) (by omega) (by omega)))
 have M5 := Li hm5
 have K5 := Li hk5
 have HO := Li ho
 have HQ := Li hq
 have HCT := Li hct
 have HCN := Li hcn
 have HCC := Li HC
 have HXA := Li hxa
 have HSC := Li hsc
 clear hcn HC hxa hsc
 clear hk hi hf hqq e1 e2 hk3 hm5 hk5 ho hq hct
 go_enter_defers Tryz.func28, Tryz.ntmps28
 go_wp2_with fail
 refine HPOS.out.mono ?_
 rintro e w6 ⟨ln, rfl, hb6⟩
 clear HPOS m0 c2a f2a
 obtain ⟨pb, hpb⟩ : ∃ pb, w6.heap.size = pb := ⟨_, rfl⟩
 have hbp := hb6.alloc hb6.size (.cells #[.pointer (some ⟨bm, 0, none⟩), .int .i32 ln, .int .i32 1] 63)
 have hpk : Blk (w6.alloc (.cells #[.pointer (some ⟨bm, 0, none⟩), .int .i32 ln, .int .i32 1] 63)) pb 63 [.pointer (some ⟨bm, 0, none⟩), .int .i32 ln, .int .i32 1] := by rw [← hpb]; exact Blk.new w6 _ _
 have M6 : Hid (MK3 (w6.alloc (.cells #[.pointer (some ⟨bm, 0, none⟩), .int .i32 ln, .int .i32 1] 63)).drew H bm bi bf q q (q + 1)) := Li (show MK3 (w6.alloc (.cells #[.pointer (some ⟨bm, 0, none⟩), .int .i32 ln, .int .i32 1] 63)) H bm bi bf q q (q + 1) from M5.out.below hbp)
 have K6' := K5.out.keep (M5.out.to (q := q + 1) (by omega) (by omega) (by omega)) (Stp.of_below hbp)
 have K6 : Hid (StK H bm (cnt + 1) [.int .i64 6, .int .i64 op, .string tx, .slice na nm.length nc, .slice sa 1 sc, .slice pa 0 pc, .slice ba c.length bc, .slice ea 0 ec] w (w6.alloc (.cells #[.pointer (some ⟨bm, 0, none⟩), .int .i32 ln, .int .i32 1] 63)).drew bi bf bi bf) := Li ⟨K6'.hmb, K6'.hsb, K6'.hob, K6'.hfb, K6'.hs.drew⟩
 have P6 : Hid (Blk (w6.alloc (.cells #[.pointer (some ⟨bm, 0, none⟩), .int .i32 ln, .int .i32 1] 63)).drew pb 63 [.pointer (some ⟨bm, 0, none⟩), .int .i32 ln, .int .i32 1]) := Li hpk
 have WT1 := Li (want3_any H bm bi bf q q (q + 1) (w6.alloc (.cells #[.pointer (some ⟨bm, 0, none⟩), .int .i32 ln, .int .i32 1] 63)).drew M6.out)
 have KS : Hid (∀ W bi' bf', StK H bm (cnt + 1) [.int .i64 6, .int .i64 op, .string tx, .slice na nm.length nc, .slice sa 1 sc, .slice pa 0 pc, .slice ba c.length bc, .slice ea 0 ec] w W bi bf bi' bf' → W.cell? ⟨w.heap.size, 0, none⟩ = some (.pointer (some ⟨bm, 0, none⟩)) ∧ W.cell? ⟨w.heap.size + 1, 0, none⟩ = some (.int .i64 6) ∧ W.cell? ⟨w.heap.size + 1, 4, none⟩ = some (.slice sa 1 sc) ∧ W.cell? ⟨w.heap.size + 1 + 1 + 1, 6, none⟩ = some (.int .i64 1)) := Li (fun W bi' bf' h => ⟨h.hmb.cell 0 (by simp), h.hsb.cell 0 (by simp), h.hsb.cell 4 (by simp), h.hfb.cell 6 (by simp)⟩)
 clear hb6 hbp hpk K6' K5 M5
 go_upto_region 7 with fail
 refine wp_region_noPanic ?_
 refine wp_region_held_drew (S := fun W => W.cell? ⟨w.heap.size, 0, none⟩ = some (.pointer (some ⟨bm, 0, none⟩)) ∧ W.cell? ⟨w.heap.size + 1, 0, none⟩ = some (.int .i64 6) ∧ W.cell? ⟨w.heap.size + 1, 4, none⟩ = some (.slice sa 1 sc) ∧ W.cell? ⟨w.heap.size + 1 + 1 + 1, 6, none⟩ = some (.int .i64 1)) (by kernel_rfl) ?_ (fun hHeld => ?_)
 · (try dsimp only)
   with_reducible first | exact KS.out _ _ _ K6.out | exact KS.out _ _ _ K1.out | exact KS.out _ _ _ K2.out | fail
 refine tkA 0 ?_
 refine tkA 1 ?_
 refine tkA 2 ?_
 refine tkA 3 ?_
 refine tkA 4 ?_
 refine tkA 5 ?_
 refine tkA 6 ?_
 refine tkA 7 ?_
 refine tkA 8 ?_
 refine wpAnyH_ready (rs := [9]) (by kernel_rfl) (by simp) ?_
 refine AllReadyH.cons (o := _) (by simp only [List.getElem?_toArray, List.getElem?_cons_zero, List.getElem?_cons_succ]; rfl) (fun K hK => ?_) AllReadyH.nil
 go_simp
 go_at_call 36
 with_reducible refine WT1.out.mono ?_
 rintro e wt1 ⟨rfl, hs1, hm1⟩
 obtain ⟨k1, p1, wn⟩ := st_nxt K6.out P6.out M6.out hs1 hm1
 have K1 := Li k1
 have P1 := Li p1
 have M1 := Li hm1
 have WT2 := Li wn
 clear hs1 hm1 k1 p1 wn
 refine hK.out _ _ ?_ (fun hHeld => ?_)
 · (try dsimp only)
   with_reducible first | exact KS.out _ _ _ K6.out | exact KS.out _ _ _ K1.out | exact KS.out _ _ _ K2.out | fail
 clear hK K
 try simp only [Act.put, sA, s0, s1]
 refine tkA 10 ?_
 refine tkA 11 ?_
 refine tkA 12 ?_
 refine tkA 13 ?_
 refine tkA 14 ?_
 refine tkA 15 ?_
 refine tkA 16 ?_
 refine tkA 17 ?_
 refine tkA 18 ?_
 refine tkA 19 ?_
 refine tkA 20 ?_
 refine tkA 21 ?_
 refine tkU 22 ?_
 refine tkU 23 ?_
 refine tkU 24 ?_
 refine tkU 25 ?_
 refine tkU 26 ?_
 refine tkU 27 ?_
 refine tkU 28 ?_
 refine tkU 29 ?_
 refine tkU 30 ?_
 refine tkA 31 ?_
 refine wpAnyH_ready (rs := [32]) (by kernel_rfl) (by simp) ?_
 refine AllReadyH.cons (o := _) (by simp only [List.getElem?_toArray, List.getElem?_cons_zero, List.getElem?_cons_succ]; rfl) (fun K hK => ?_) AllReadyH.nil
 go_simp
 go_at_call 36
 with_reducible refine WT2.out.mono ?_
 rintro e wt2 ⟨rfl, hs2, hm2⟩
 obtain ⟨k2, p2, wn⟩ := st_nxt K1.out P1.out M1.out hs2 hm2
 have K2 := Li k2
 have P2 := Li p2
 have M2 := Li hm2
 clear hs2 hm2 k2 p2 wn
 refine hK.out _ _ ?_ (fun hHeld => ?_)
 · (try dsimp only)
   with_reducible first | exact KS.out _ _ _ K6.out | exact KS.out _ _ _ K1.out | exact KS.out _ _ _ K2.out | fail
 clear hK K
 try simp only [Act.put, sA, s0, s1]
 refine tkA 33 ?_
 refine tkA 34 ?_
 refine wpAnyH_done (by kernel_rfl) ?_ _
 refine NoPanic.normal ?_
 try simp only [Act.put, sA, s0, s1]
 have q0 := K2.out.hmb.cell 0 (by simp)
 have s0 := K2.out.hsb.cell 0 (by simp)
 have s1 := K2.out.hsb.cell 1 (by simp)
 have s2 := K2.out.hsb.cell 2 (by simp)
 have s3 := K2.out.hsb.cell 3 (by simp)
 have s4 := K2.out.hsb.cell 4 (by simp)
 have s5 := K2.out.hsb.cell 5 (by simp)
 have s6 := K2.out.hsb.cell 6 (by simp)
 have s7 := K2.out.hsb.cell 7 (by simp)
 have hst2 := K2.out.hs.size
 have HO2 : Hid (Old R B wt2) := Li (HO.out.below ((K2.out.hs.below (H := H) (by omega) (by omega) (by omega) (by omega)).mono hBH))
 clear KS WT1 K6 M6 P6
 have CL := Li (compound_k6 op tx v nm x c na sa pa ba ea nc sc pc bc ec wt2 bi bf q okx HCN.out HCC.out HXA.out HSC.out HO2.out hBH (M2.out.to (by omega) (by omega) (by omega)) HQ.out)
 go_wp2_with fail
 refine CL.out.mono ?_
 rintro e w8 h8
 obtain ⟨T8, b8, rfl⟩ := h8.ret
 obtain ⟨y9, r1, r2, r3, r4, r5, hfin⟩ := K2.out.close (M2.out.to (q := q + 1) (by omega) (by omega) (by omega)) h8 hc0 (by have := HCT.out; omega) (by omega)
 have FIN := Li hfin
 clear h8
 clear CL
 go_wp2_with fail
 refine leaves_cons (f := 34) (args := #[.pointer (some ⟨w.heap.size + 1 + 1, 0, none⟩), .pointer (some ⟨w.heap.size, 0, none⟩)]) (by simp) (by kernel_rfl) ?_
 refine (line_deferred .returning _ bm _ _ (cnt + 1) y9 r1 r2 r3 r4 r5).mono ?_
 rintro e u' w'' ⟨rfl, rfl, rfl⟩
 refine ⟨_, ?_, FIN.out⟩
 simp [results, Tryz.results28, go_sem]
set_option maxHeartbeats 12800000 in
theorem mst_k7a {R : Nat → Nat → Option Value} {B H bm : Nat} (op : Int) (tx : ByteArray) (v : VV) (nm : List ByteArray) (na sa pa ba ea : Option Addr) (nc sc pc bc ec : Nat) (w : World) (bi bf q : Nat) (hxa : ExL R [] (.slice sa 0 sc)) (ho : Old R B w) (hBH : B ≤ H) (hm : MK w H bm bi bf q) (hq : q + ctS (Tr.mk 7 op tx v nm [] [] [] []) ≤ 8192) :
   Calls Tryz.prog 28 #[.pointer (some ⟨bm, 0, none⟩), .agg #[.int .i64 7, .int .i64 op, .string tx, .slice na nm.length nc, .slice sa 0 sc, .slice pa 0 pc, .slice ba 0 bc, .slice ea 0 ec]] w (MPost H bm bi bf q (ctS (Tr.mk 7 op tx v nm [] [] [] [])) (nmS (Tr.mk 7 op tx v nm [] [] [] [])) w) := by
 have hmf : ∀ (fn : Fn) (first cap : Array Value) (w : World), (Instr.makeFunc fn first cap).run Tryz.prog w = .ok (.func fn first cap) w := fun _ _ _ _ => rfl
 have HM := Li hm
 obtain ⟨nm0, cnt, line, vi, vf, ni, nf, xi, xf, hk, hi, hf, hqq, e1, e2, hH⟩ := hm
 have hl := HM.out.lts
 have c1 := hk.cell 1 (by simp)
 have f1 := hk.free 1
 have hct : 1 ≤ ctS (Tr.mk 7 op tx v nm [] [] [] []) := by rw [ctS_mk]; omega
 have hcn1 : cnt + 1 ≤ 2147483647 := by omega
 have hc0 : 0 ≤ cnt + 1 := by omega
 have hcq : cnt + 1 ≤ (q : Int) + 1 := by omega
 have hk3 : Blk ((((w.setCell ⟨bm, 1, none⟩ (.int .i32 (cnt + 1))).alloc (.cells #[.pointer (some ⟨bm, 0, none⟩)] 50)).alloc (.cells #[.int .i64 7, .int .i64 op, .string tx, .slice na nm.length nc, .slice sa 0 sc, .slice pa 0 pc, .slice ba 0 bc, .slice ea 0 ec] 42)).alloc (.cells #[.int .i32 (cnt + 1)] 21)) bm 83 _ := (((hk.set 1 (.int .i32 (cnt + 1))).alloc _).alloc _).alloc _
 have c2a := hk3.cell 2 (by simp)
 have f2a := hk3.free 2
 obtain ⟨hm5, hk5⟩ := st_start (SS := [.int .i64 7, .int .i64 op, .string tx, .slice na nm.length nc, .slice sa 0 sc, .slice pa 0 pc, .slice ba 0 bc, .slice ea 0 ec]) HM.out hc0 hcq
 have m0 := cell_under (hk5.hmb.cell 0 (by simp)) (by simp [World.setCell]; omega)
 have HPOS := Li (pos_any H bm bi bf (q + 1) _ (hm5.to (by omega) (by omega) (by omega)))
 have M5 := Li hm5
 have K5 := Li hk5
 have HO := Li ho
 have HQ := Li hq
 have HCT := Li hct
 have HXA := Li hxa
 clear hxa
 clear hk hi hf hqq e1 e2 hk3 hm5 hk5 ho hq hct
 go_enter_defers Tryz.func28, Tryz.ntmps28
 go_wp2_with fail
 refine HPOS.out.mono ?_
 rintro e w6 ⟨ln, rfl, hb6⟩
 clear HPOS m0 c2a f2a
 obtain ⟨pb, hpb⟩ : ∃ pb, w6.heap.size = pb := ⟨_, rfl⟩
 have hbp := hb6.alloc hb6.size (.cells #[.pointer (some ⟨bm, 0, none⟩), .int .i32 ln, .int .i32 1] 63)
 have hpk : Blk (w6.alloc (.cells #[.pointer (some ⟨bm, 0, none⟩), .int .i32 ln, .int .i32 1] 63)) pb 63 [.pointer (some ⟨bm, 0, none⟩), .int .i32 ln, .int .i32 1] := by rw [← hpb]; exact Blk.new w6 _ _
 have M6 : Hid (MK3 (w6.alloc (.cells #[.pointer (some ⟨bm, 0, none⟩), .int .i32 ln, .int .i32 1] 63)).drew H bm bi bf q q (q + 1)) := Li (show MK3 (w6.alloc (.cells #[.pointer (some ⟨bm, 0, none⟩), .int .i32 ln, .int .i32 1] 63)) H bm bi bf q q (q + 1) from M5.out.below hbp)
 have K6' := K5.out.keep (M5.out.to (q := q + 1) (by omega) (by omega) (by omega)) (Stp.of_below hbp)
 have K6 : Hid (StK H bm (cnt + 1) [.int .i64 7, .int .i64 op, .string tx, .slice na nm.length nc, .slice sa 0 sc, .slice pa 0 pc, .slice ba 0 bc, .slice ea 0 ec] w (w6.alloc (.cells #[.pointer (some ⟨bm, 0, none⟩), .int .i32 ln, .int .i32 1] 63)).drew bi bf bi bf) := Li ⟨K6'.hmb, K6'.hsb, K6'.hob, K6'.hfb, K6'.hs.drew⟩
 have P6 : Hid (Blk (w6.alloc (.cells #[.pointer (some ⟨bm, 0, none⟩), .int .i32 ln, .int .i32 1] 63)).drew pb 63 [.pointer (some ⟨bm, 0, none⟩), .int .i32 ln, .int .i32 1]) := Li hpk
 have WT1 := Li (want3_any H bm bi bf q q (q + 1) (w6.alloc (.cells #[.pointer (some ⟨bm, 0, none⟩), .int .i32 ln, .int .i32 1] 63)).drew M6.out)
 have KS : Hid (∀ W bi' bf', StK H bm (cnt + 1) [.int .i64 7, .int .i64 op, .string tx, .slice na nm.length nc, .slice sa 0 sc, .slice pa 0 pc, .slice ba 0 bc, .slice ea 0 ec] w W bi bf bi' bf' → W.cell? ⟨w.heap.size, 0, none⟩ = some (.pointer (some ⟨bm, 0, none⟩)) ∧ W.cell? ⟨w.heap.size + 1, 0, none⟩ = some (.int .i64 7) ∧ W.cell? ⟨w.heap.size + 1, 4, none⟩ = some (.slice sa 0 sc) ∧ W.cell? ⟨w.heap.size + 1 + 1 + 1, 7, none⟩ = some (.int .i64 0)) := Li (fun W bi' bf' h => ⟨h.hmb.cell 0 (by simp), h.hsb.cell 0 (by simp), h.hsb.cell 4 (by simp), h.hfb.cell 7 (by simp)⟩)
 clear hb6 hbp hpk K6' K5 M5
 go_upto_region 7 with fail
 refine wp_region_noPanic ?_
 refine wp_region_held_drew (S := fun W => W.cell? ⟨w.heap.size, 0, none⟩ = some (.pointer (some ⟨bm, 0, none⟩)) ∧ W.cell? ⟨w.heap.size + 1, 0, none⟩ = some (.int .i64 7) ∧ W.cell? ⟨w.heap.size + 1, 4, none⟩ = some (.slice sa 0 sc) ∧ W.cell? ⟨w.heap.size + 1 + 1 + 1, 7, none⟩ = some (.int .i64 0)) (by kernel_rfl) ?_ (fun hHeld => ?_)
 · (try dsimp only)
   with_reducible first | exact KS.out _ _ _ K6.out | exact KS.out _ _ _ K1.out | exact KS.out _ _ _ K2.out | fail
 refine tkA 0 ?_
 refine tkA 1 ?_
 refine tkA 2 ?_
 refine tkA 3 ?_
 refine tkA 4 ?_
 refine tkA 5 ?_
 refine tkA 6 ?_
 refine tkA 7 ?_
 refine tkA 8 ?_
 refine wpAnyH_ready (rs := [9]) (by kernel_rfl) (by simp) ?_
 refine AllReadyH.cons (o := _) (by simp only [List.getElem?_toArray, List.getElem?_cons_zero, List.getElem?_cons_succ]; rfl) (fun K hK => ?_) AllReadyH.nil
 go_simp
 go_at_call 36
 with_reducible refine WT1.out.mono ?_
 rintro e wt1 ⟨rfl, hs1, hm1⟩
 obtain ⟨k1, p1, wn⟩ := st_nxt K6.out P6.out M6.out hs1 hm1
 have K1 := Li k1
 have P1 := Li p1
 have M1 := Li hm1
 have WT2 := Li wn
 clear hs1 hm1 k1 p1 wn
 refine hK.out _ _ ?_ (fun hHeld => ?_)
 · (try dsimp only)
   with_reducible first | exact KS.out _ _ _ K6.out | exact KS.out _ _ _ K1.out | exact KS.out _ _ _ K2.out | fail
 clear hK K
 try simp only [Act.put, sA, s0, s1]
 refine tkA 10 ?_
 refine tkA 11 ?_
 refine tkA 12 ?_
 refine tkA 13 ?_
 refine tkA 14 ?_
 refine tkA 15 ?_
 refine tkA 16 ?_
 refine tkA 17 ?_
 refine tkA 18 ?_
 refine tkA 19 ?_
 refine tkA 20 ?_
 refine tkA 21 ?_
 refine tkU 22 ?_
 refine tkU 23 ?_
 refine tkU 24 ?_
 refine tkU 25 ?_
 refine tkU 26 ?_
 refine tkU 27 ?_
 refine tkU 28 ?_
 refine tkU 29 ?_
 refine tkU 30 ?_
 refine tkA 31 ?_
 refine wpAnyH_ready (rs := [32]) (by kernel_rfl) (by simp) ?_
 refine AllReadyH.cons (o := _) (by simp only [List.getElem?_toArray, List.getElem?_cons_zero, List.getElem?_cons_succ]; rfl) (fun K hK => ?_) AllReadyH.nil
 go_simp
 go_at_call 36
 with_reducible refine WT2.out.mono ?_
 rintro e wt2 ⟨rfl, hs2, hm2⟩
 obtain ⟨k2, p2, wn⟩ := st_nxt K1.out P1.out M1.out hs2 hm2
 have K2 := Li k2
 have P2 := Li p2
 have M2 := Li hm2
 clear hs2 hm2 k2 p2 wn
 refine hK.out _ _ ?_ (fun hHeld => ?_)
 · (try dsimp only)
   with_reducible first | exact KS.out _ _ _ K6.out | exact KS.out _ _ _ K1.out | exact KS.out _ _ _ K2.out | fail
 clear hK K
 try simp only [Act.put, sA, s0, s1]
 refine tkA 33 ?_
 refine tkA 34 ?_
 refine wpAnyH_done (by kernel_rfl) ?_ _
 refine NoPanic.normal ?_
 try simp only [Act.put, sA, s0, s1]
 have q0 := K2.out.hmb.cell 0 (by simp)
 have s0 := K2.out.hsb.cell 0 (by simp)
 have s1 := K2.out.hsb.cell 1 (by simp)
 have s2 := K2.out.hsb.cell 2 (by simp)
 have s3 := K2.out.hsb.cell 3 (by simp)
 have s4 := K2.out.hsb.cell 4 (by simp)
 have s5 := K2.out.hsb.cell 5 (by simp)
 have s6 := K2.out.hsb.cell 6 (by simp)
 have s7 := K2.out.hsb.cell 7 (by simp)
 have hst2 := K2.out.hs.size
 have HO2 : Hid (Old R B wt2) := Li (HO.out.below ((K2.out.hs.below (H := H) (by omega) (by omega) (by omega) (by omega)).mono hBH))
 clear KS WT1 K6 M6 P6
 have A0 : Hid (Acc H bm bi bf q pb (w.heap.size + 1) ln 42 [.int .i64 7, .int .i64 op, .string tx, .slice na nm.length nc, .slice sa 0 sc, .slice pa 0 pc, .slice ba 0 bc, .slice ea 0 ec] wt2 1 bi bf wt2) := Li ⟨P2.out, K2.out.hsb, Stp.refl _ _ _ _ _, M2.out.to (by omega) (by omega) (by omega), by omega, fr_stmt⟩
 have hce : ctEs [] + 1 = ctS (Tr.mk 7 op tx v nm [] [] [] []) := by rw [ctS_mk]; simp <;> omega
 have HCE := Li hce
 have EX := Li (mexprs_of (l := []) (H := H) (bm := bm) (fun t _ => mex_any R B H bm t) (by simp) sa sc wt2 bi bf (q + 1) HXA.out HO2.out hBH A0.out.hm (by have := HQ.out; omega) (by simp))
 clear hce
 go_wp2_with fail
 refine EX.out.mono ?_
 rintro e w7 h7
 obtain ⟨la, lc, vs1, c7, bi7, bf7, rfl, hvl1, hA1, _, hR1, hN1, hc7⟩ := A0.out.row h7
 have s0' := hA1.he.cell 0 (by simp)
 have s1' := hA1.he.cell 1 (by simp)
 have A1 := Li hA1
 have N1 := Li hN1
 clear h7 hA1 hR1 hN1 EX A0
 have p0 := A1.out.hp.cell 0 (by simp)
 have p1 := A1.out.hp.cell 1 (by simp)
 have p2 := A1.out.hp.cell 2 (by simp)
 have h8 : MPost H bm bi bf q (ctS (Tr.mk 7 op tx v nm [] [] [] [])) (nmS (Tr.mk 7 op tx v nm [] [] [] [])) wt2 (.returned (.iface 115 (.pointer (some ⟨w7.heap.size, 0, none⟩)))) (w7.alloc (.cells #[.pointer none, .pointer (some ⟨bm, 0, none⟩), .int .i32 ln, .int .i32 1, .nilIface] 117)) := A1.out.fin (L := [.pointer none, .pointer (some ⟨bm, 0, none⟩), .int .i32 ln, .int .i32 1, .nilIface]) (T := 115) (e := 117) (sl := [(4, .o)]) (by simp [tbl]) (.none 4 _ _ rfl .nil) .nil (by have := HCE.out; omega) (by have := HCE.out; omega) (by rw [nmS_mk]; simp)
 obtain ⟨y9, r1, r2, r3, r4, r5, hfin⟩ := K2.out.close (M2.out.to (q := q + 1) (by omega) (by omega) (by omega)) h8 hc0 (by have := HCT.out; omega) (by omega)
 have FIN := Li hfin
 clear h8
 clear A1 N1
 go_wp2_with fail
 refine leaves_cons (f := 34) (args := #[.pointer (some ⟨w.heap.size + 1 + 1, 0, none⟩), .pointer (some ⟨w.heap.size, 0, none⟩)]) (by simp) (by kernel_rfl) ?_
 refine (line_deferred .returning _ bm _ _ (cnt + 1) y9 r1 r2 r3 r4 r5).mono ?_
 rintro e u' w'' ⟨rfl, rfl, rfl⟩
 refine ⟨_, ?_, FIN.out⟩
 simp [results, Tryz.results28, go_sem]
set_option maxHeartbeats 12800000 in
theorem mst_k7b {R : Nat → Nat → Option Value} {B H bm : Nat} (op : Int) (tx : ByteArray) (v : VV) (nm : List ByteArray) (x : Tr) (na sa pa ba ea : Option Addr) (nc sc pc bc ec : Nat) (w : World) (bi bf q : Nat) (okx : OkE x) (hxa : ExL R [x] (.slice sa 1 sc)) (ho : Old R B w) (hBH : B ≤ H) (hm : MK w H bm bi bf q) (hq : q + ctS (Tr.mk 7 op tx v nm [x] [] [] []) ≤ 8192) :
   Calls Tryz.prog 28 #[.pointer (some ⟨bm, 0, none⟩), .agg #[.int .i64 7, .int .i64 op, .string tx, .slice na nm.length nc, .slice sa 1 sc, .slice pa 0 pc, .slice ba 0 bc, .slice ea 0 ec]] w (MPost H bm bi bf q (ctS (Tr.mk 7 op tx v nm [x] [] [] [])) (nmS (Tr.mk 7 op tx v nm [x] [] [] [])) w) := by
 have hmf : ∀ (fn : Fn) (first cap : Array Value) (w : World), (Instr.makeFunc fn first cap).run Tryz.prog w = .ok (.func fn first cap) w := fun _ _ _ _ => rfl
 have HM := Li hm
 obtain ⟨nm0, cnt, line, vi, vf, ni, nf, xi, xf, hk, hi, hf, hqq, e1, e2, hH⟩ := hm
 have hl := HM.out.lts
 have c1 := hk.cell 1 (by simp)
 have f1 := hk.free 1
 have hct : 1 ≤ ctS (Tr.mk 7 op tx v nm [x] [] [] []) := by rw [ctS_mk]; omega
 have hcn1 : cnt + 1 ≤ 2147483647 := by omega
 have hc0 : 0 ≤ cnt + 1 := by omega
 have hcq : cnt + 1 ≤ (q : Int) + 1 := by omega
 have hk3 : Blk ((((w.setCell ⟨bm, 1, none⟩ (.int .i32 (cnt + 1))).alloc (.cells #[.pointer (some ⟨bm, 0, none⟩)] 50)).alloc (.cells #[.int .i64 7, .int .i64 op, .string tx, .slice na nm.length nc, .slice sa 1 sc, .slice pa 0 pc, .slice ba 0 bc, .slice ea 0 ec] 42)).alloc (.cells #[.int .i32 (cnt + 1)] 21)) bm 83 _ := (((hk.set 1 (.int .i32 (cnt + 1))).alloc _).alloc _).alloc _
 have c2a := hk3.cell 2 (by simp)
 have f2a := hk3.free 2
 obtain ⟨hm5, hk5⟩ := st_start (SS := [.int .i64 7, .int .i64 op, .string tx, .slice na nm.length nc, .slice sa 1 sc, .slice pa 0 pc, .slice ba 0 bc, .slice ea 0 ec]) HM.out hc0 hcq
 have m0 := cell_under (hk5.hmb.cell 0 (by simp)) (by simp [World.setCell]; omega)
 have HPOS := Li (pos_any H bm bi bf (q + 1) _ (hm5.to (by omega) (by omega) (by omega)))
 have M5 := Li hm5
 have K5 := Li hk5
 have HO := Li ho
 have HQ := Li hq
 have HCT := Li hct
 have HXA := Li hxa
 clear hxa
 clear hk hi hf hqq e1 e2 hk3 hm5 hk5 ho hq hct
 go_enter_defers Tryz.func28, Tryz.ntmps28
 go_wp2_with fail
 refine HPOS.out.mono ?_
 rintro e w6 ⟨ln, rfl, hb6⟩
 clear HPOS m0 c2a f2a
 obtain ⟨pb, hpb⟩ : ∃ pb, w6.heap.size = pb := ⟨_, rfl⟩
 have hbp := hb6.alloc hb6.size (.cells #[.pointer (some ⟨bm, 0, none⟩), .int .i32 ln, .int .i32 1] 63)
 have hpk : Blk (w6.alloc (.cells #[.pointer (some ⟨bm, 0, none⟩), .int .i32 ln, .int .i32 1] 63)) pb 63 [.pointer (some ⟨bm, 0, none⟩), .int .i32 ln, .int .i32 1] := by rw [← hpb]; exact Blk.new w6 _ _
 have M6 : Hid (MK3 (w6.alloc (.cells #[.pointer (some ⟨bm, 0, none⟩), .int .i32 ln, .int .i32 1] 63)).drew H bm bi bf q q (q + 1)) := Li (show MK3 (w6.alloc (.cells #[.pointer (some ⟨bm, 0, none⟩), .int .i32 ln, .int .i32 1] 63)) H bm bi bf q q (q + 1) from M5.out.below hbp)
 have K6' := K5.out.keep (M5.out.to (q := q + 1) (by omega) (by omega) (by omega)) (Stp.of_below hbp)
 have K6 : Hid (StK H bm (cnt + 1) [.int .i64 7, .int .i64 op, .string tx, .slice na nm.length nc, .slice sa 1 sc, .slice pa 0 pc, .slice ba 0 bc, .slice ea 0 ec] w (w6.alloc (.cells #[.pointer (some ⟨bm, 0, none⟩), .int .i32 ln, .int .i32 1] 63)).drew bi bf bi bf) := Li ⟨K6'.hmb, K6'.hsb, K6'.hob, K6'.hfb, K6'.hs.drew⟩
 have P6 : Hid (Blk (w6.alloc (.cells #[.pointer (some ⟨bm, 0, none⟩), .int .i32 ln, .int .i32 1] 63)).drew pb 63 [.pointer (some ⟨bm, 0, none⟩), .int .i32 ln, .int .i32 1]) := Li hpk
 have WT1 := Li (want3_any H bm bi bf q q (q + 1) (w6.alloc (.cells #[.pointer (some ⟨bm, 0, none⟩), .int .i32 ln, .int .i32 1] 63)).drew M6.out)
 have KS : Hid (∀ W bi' bf', StK H bm (cnt + 1) [.int .i64 7, .int .i64 op, .string tx, .slice na nm.length nc, .slice sa 1 sc, .slice pa 0 pc, .slice ba 0 bc, .slice ea 0 ec] w W bi bf bi' bf' → W.cell? ⟨w.heap.size, 0, none⟩ = some (.pointer (some ⟨bm, 0, none⟩)) ∧ W.cell? ⟨w.heap.size + 1, 0, none⟩ = some (.int .i64 7) ∧ W.cell? ⟨w.heap.size + 1, 4, none⟩ = some (.slice sa 1 sc) ∧ W.cell? ⟨w.heap.size + 1 + 1 + 1, 7, none⟩ = some (.int .i64 0)) := Li (fun W bi' bf' h => ⟨h.hmb.cell 0 (by simp), h.hsb.cell 0 (by simp), h.hsb.cell 4 (by simp), h.hfb.cell 7 (by simp)⟩)
 clear hb6 hbp hpk K6' K5 M5
 go_upto_region 7 with fail
 refine wp_region_noPanic ?_
 refine wp_region_held_drew (S := fun W => W.cell? ⟨w.heap.size, 0, none⟩ = some (.pointer (some ⟨bm, 0, none⟩)) ∧ W.cell? ⟨w.heap.size + 1, 0, none⟩ = some (.int .i64 7) ∧ W.cell? ⟨w.heap.size + 1, 4, none⟩ = some (.slice sa 1 sc) ∧ W.cell? ⟨w.heap.size + 1 + 1 + 1, 7, none⟩ = some (.int .i64 0)) (by kernel_rfl) ?_ (fun hHeld => ?_)
 · (try dsimp only)
   with_reducible first | exact KS.out _ _ _ K6.out | exact KS.out _ _ _ K1.out | exact KS.out _ _ _ K2.out | fail
 refine tkA 0 ?_
 refine tkA 1 ?_
 refine tkA 2 ?_
 refine tkA 3 ?_
 refine tkA 4 ?_
 refine tkA 5 ?_
 refine tkA 6 ?_
 refine tkA 7 ?_
 refine tkA 8 ?_
 refine wpAnyH_ready (rs := [9]) (by kernel_rfl) (by simp) ?_
 refine AllReadyH.cons (o := _) (by simp only [List.getElem?_toArray, List.getElem?_cons_zero, List.getElem?_cons_succ]; rfl) (fun K hK => ?_) AllReadyH.nil
 go_simp
 go_at_call 36
 with_reducible refine WT1.out.mono ?_
 rintro e wt1 ⟨rfl, hs1, hm1⟩
 obtain ⟨k1, p1, wn⟩ := st_nxt K6.out P6.out M6.out hs1 hm1
 have K1 := Li k1
 have P1 := Li p1
 have M1 := Li hm1
 have WT2 := Li wn
 clear hs1 hm1 k1 p1 wn
 refine hK.out _ _ ?_ (fun hHeld => ?_)
 · (try dsimp only)
   with_reducible first | exact KS.out _ _ _ K6.out | exact KS.out _ _ _ K1.out | exact KS.out _ _ _ K2.out | fail
 clear hK K
 try simp only [Act.put, sA, s0, s1]
 refine tkA 10 ?_
 refine tkA 11 ?_
 refine tkA 12 ?_
 refine tkA 13 ?_
 refine tkA 14 ?_
 refine tkA 15 ?_
 refine tkA 16 ?_
 refine tkA 17 ?_
 refine tkA 18 ?_
 refine tkA 19 ?_
 refine tkA 20 ?_
 refine tkA 21 ?_
 refine tkA 22 ?_
 refine tkA 23 ?_
 refine tkA 24 ?_
 refine tkA 25 ?_
 refine tkA 26 ?_
 refine tkA 27 ?_
 refine tkA 28 ?_
 refine tkA 29 ?_
 refine tkA 30 ?_
 refine tkA 31 ?_
 refine wpAnyH_ready (rs := [32]) (by kernel_rfl) (by simp) ?_
 refine AllReadyH.cons (o := _) (by simp only [List.getElem?_toArray, List.getElem?_cons_zero, List.getElem?_cons_succ]; rfl) (fun K hK => ?_) AllReadyH.nil
 go_simp
 go_at_call 36
 with_reducible refine WT2.out.mono ?_
 rintro e wt2 ⟨rfl, hs2, hm2⟩
 obtain ⟨k2, p2, wn⟩ := st_nxt K1.out P1.out M1.out hs2 hm2
 have K2 := Li k2
 have P2 := Li p2
 have M2 := Li hm2
 clear hs2 hm2 k2 p2 wn
 refine hK.out _ _ ?_ (fun hHeld => ?_)
 · (try dsimp only)
   with_reducible first | exact KS.out _ _ _ K6.out | exact KS.out _ _ _ K1.out | exact KS.out _ _ _ K2.out | fail
 clear hK K
 try simp only [Act.put, sA, s0, s1]
 refine tkA 33 ?_
 refine tkA 34 ?_
 refine wpAnyH_done (by kernel_rfl) ?_ _
 refine NoPanic.normal ?_
 try simp only [Act.put, sA, s0, s1]
 have q0 := K2.out.hmb.cell 0 (by simp)
 have s0 := K2.out.hsb.cell 0 (by simp)
 have s1 := K2.out.hsb.cell 1 (by simp)
 have s2 := K2.out.hsb.cell 2 (by simp)
 have s3 := K2.out.hsb.cell 3 (by simp)
 have s4 := K2.out.hsb.cell 4 (by simp)
 have s5 := K2.out.hsb.cell 5 (by simp)
 have s6 := K2.out.hsb.cell 6 (by simp)
 have s7 := K2.out.hsb.cell 7 (by simp)
 have hst2 := K2.out.hs.size
 have HO2 : Hid (Old R B wt2) := Li (HO.out.below ((K2.out.hs.below (H := H) (by omega) (by omega) (by omega) (by omega)).mono hBH))
 clear KS WT1 K6 M6 P6
 have A0 : Hid (Acc H bm bi bf q pb (w.heap.size + 1) ln 42 [.int .i64 7, .int .i64 op, .string tx, .slice na nm.length nc, .slice sa 1 sc, .slice pa 0 pc, .slice ba 0 bc, .slice ea 0 ec] wt2 1 bi bf wt2) := Li ⟨P2.out, K2.out.hsb, Stp.refl _ _ _ _ _, M2.out.to (by omega) (by omega) (by omega), by omega, fr_stmt⟩
 have hce : ctEs [x] + 1 = ctS (Tr.mk 7 op tx v nm [x] [] [] []) := by rw [ctS_mk]; simp <;> omega
 have HCE := Li hce
 have EX := Li (mexprs_of (l := [x]) (H := H) (bm := bm) (fun t _ => mex_any R B H bm t) (by simp; exact okx) sa sc wt2 bi bf (q + 1) HXA.out HO2.out hBH A0.out.hm (by have := HQ.out; omega) (by simp))
 clear hce
 go_wp2_with fail
 refine EX.out.mono ?_
 rintro e w7 h7
 obtain ⟨la, lc, vs1, c7, bi7, bf7, rfl, hvl1, hA1, _, hR1, hN1, hc7⟩ := A0.out.row h7
 have s0' := hA1.he.cell 0 (by simp)
 have s1' := hA1.he.cell 1 (by simp)
 have A1 := Li hA1
 have N1 := Li hN1
 obtain ⟨rb, rfl, hrb, hrc, hrm, hvlr, hrow⟩ := hR1.cells (by simp)
 unfold maxLen at hrm
 obtain ⟨T0, b0, rfl⟩ := hN1.one_of hvl1
 have v0c := hrow 0 _ rfl
 clear hrow hrb hvlr
 clear h7 hA1 hR1 hN1 EX A0
 have p0 := A1.out.hp.cell 0 (by simp)
 have p1 := A1.out.hp.cell 1 (by simp)
 have p2 := A1.out.hp.cell 2 (by simp)
 have h8 : MPost H bm bi bf q (ctS (Tr.mk 7 op tx v nm [x] [] [] [])) (nmS (Tr.mk 7 op tx v nm [x] [] [] [])) wt2 (.returned (.iface 115 (.pointer (some ⟨w7.heap.size, 0, none⟩)))) (w7.alloc (.cells #[.pointer none, .pointer (some ⟨bm, 0, none⟩), .int .i32 ln, .int .i32 1, .iface T0 (.pointer (some ⟨b0, 0, none⟩))] 117)) := A1.out.fin (L := [.pointer none, .pointer (some ⟨bm, 0, none⟩), .int .i32 ln, .int .i32 1, .iface T0 (.pointer (some ⟨b0, 0, none⟩))]) (T := 115) (e := 117) (sl := [(4, .o)]) (by simp [tbl]) (.some 4 _ _ _ rfl .nil) N1.out (by have := HCE.out; omega) (by have := HCE.out; omega) (by rw [nmS_mk]; simp)
 obtain ⟨y9, r1, r2, r3, r4, r5, hfin⟩ := K2.out.close (M2.out.to (q := q + 1) (by omega) (by omega) (by omega)) h8 hc0 (by have := HCT.out; omega) (by omega)
 have FIN := Li hfin
 clear h8
 have v0x : (w7.alloc (.cells #[.pointer none, .pointer (some ⟨bm, 0, none⟩), .int .i32 ln, .int .i32 1, .nilIface] 117)).cell? ⟨rb, 0, none⟩ = some (.iface T0 (.pointer (some ⟨b0, 0, none⟩))) := (((Below.refl w7.heap.size w7).alloc (Nat.le_refl _) (.cells #[.pointer none, .pointer (some ⟨bm, 0, none⟩), .int .i32 ln, .int .i32 1, .nilIface] 117)).cell (p := ⟨rb, 0, none⟩) (lt_of_cell v0c)).trans v0c
 clear A1 N1
 go_wp2_with fail
 refine leaves_cons (f := 34) (args := #[.pointer (some ⟨w.heap.size + 1 + 1, 0, none⟩), .pointer (some ⟨w.heap.size, 0, none⟩)]) (by simp) (by kernel_rfl) ?_
 refine (line_deferred .returning _ bm _ _ (cnt + 1) y9 r1 r2 r3 r4 r5).mono ?_
 rintro e u' w'' ⟨rfl, rfl, rfl⟩
 refine ⟨_, ?_, FIN.out⟩
 simp [results, Tryz.results28, go_sem]
set_option maxHeartbeats 12800000 in
theorem mst_k8 {R : Nat → Nat → Option Value} {B H bm : Nat} (op : Int) (tx : ByteArray) (v : VV) (nm : List ByteArray) (na sa pa ba ea : Option Addr) (nc sc pc bc ec : Nat) (w : World) (bi bf q : Nat) (ho : Old R B w) (hBH : B ≤ H) (hm : MK w H bm bi bf q) (hq : q + ctS (Tr.mk 8 op tx v nm [] [] [] []) ≤ 8192) :
   Calls Tryz.prog 28 #[.pointer (some ⟨bm, 0, none⟩), .agg #[.int .i64 8, .int .i64 op, .string tx, .slice na nm.length nc, .slice sa 0 sc, .slice pa 0 pc, .slice ba 0 bc, .slice ea 0 ec]] w (MPost H bm bi bf q (ctS (Tr.mk 8 op tx v nm [] [] [] [])) (nmS (Tr.mk 8 op tx v nm [] [] [] [])) w) := by
 have hmf : ∀ (fn : Fn) (first cap : Array Value) (w : World), (Instr.makeFunc fn first cap).run Tryz.prog w = .ok (.func fn first cap) w := fun _ _ _ _ => rfl
 have HM := Li hm
 obtain ⟨nm0, cnt, line, vi, vf, ni, nf, xi, xf, hk, hi, hf, hqq, e1, e2, hH⟩ := hm
 have hl := HM.out.lts
 have c1 := hk.cell 1 (by simp)
 have f1 := hk.free 1
 have hct : 1 ≤ ctS (Tr.mk 8 op tx v nm [] [] [] []) := by rw [ctS_mk]; omega
 have hcn1 : cnt + 1 ≤ 2147483647 := by omega
 have hc0 : 0 ≤ cnt + 1 := by omega
 have hcq : cnt + 1 ≤ (q : Int) + 1 := by omega
 have hk3 : Blk ((((w.setCell ⟨bm, 1, none⟩ (.int .i32 (cnt + 1))).alloc (.cells #[.pointer (some ⟨bm, 0, none⟩)] 50)).alloc (.cells #[.int .i64 8, .int .i64 op, .string tx, .slice na nm.length nc, .slice sa 0 sc, .slice pa 0 pc, .slice ba 0 bc, .slice ea 0 ec] 42)).alloc (.cells #[.int .i32 (cnt + 1)] 21)) bm 83 _ := (((hk.set 1 (.int .i32 (cnt + 1))).alloc _).alloc _).alloc _
 have c2a := hk3.cell 2 (by simp)
 have f2a := hk3.free 2
 obtain ⟨hm5, hk5⟩ := st_start (SS := [.int .i64 8, .int .i64 op, .string tx, .slice na nm.length nc, .slice sa 0 sc, .slice pa 0 pc, .slice ba 0 bc, .slice ea 0 ec]) HM.out hc0 hcq
 have m0 := cell_under (hk5.hmb.cell 0 (by simp)) (by simp [World.setCell]; omega)
 have HPOS := Li (pos_any H bm bi bf (q + 1) _ (hm5.to (by omega) (by omega) (by omega)))
 have M5 := Li hm5
 have K5 := Li hk5
 have HO := Li ho
 have HQ := Li hq
 have HCT := Li hct
 clear hk hi hf hqq e1 e2 hk3 hm5 hk5 ho hq hct
 go_enter_defers Tryz.func28, Tryz.ntmps28
 go_wp2_with fail
 refine HPOS.out.mono ?_
 rintro e w6 ⟨ln, rfl, hb6⟩
 clear HPOS m0 c2a f2a
 obtain ⟨pb, hpb⟩ : ∃ pb, w6.heap.size = pb := ⟨_, rfl⟩
 have hbp := hb6.alloc hb6.size (.cells #[.pointer (some ⟨bm, 0, none⟩), .int .i32 ln, .int .i32 1] 63)
 have hpk : Blk (w6.alloc (.cells #[.pointer (some ⟨bm, 0, none⟩), .int .i32 ln, .int .i32 1] 63)) pb 63 [.pointer (some ⟨bm, 0, none⟩), .int .i32 ln, .int .i32 1] := by rw [← hpb]; exact Blk.new w6 _ _
 have M6 : Hid (MK3 (w6.alloc (.cells #[.pointer (some ⟨bm, 0, none⟩), .int .i32 ln, .int .i32 1] 63)).drew H bm bi bf q q (q + 1)) := Li (show MK3 (w6.alloc (.cells #[.pointer (some ⟨bm, 0, none⟩), .int .i32 ln, .int .i32 1] 63)) H bm bi bf q q (q + 1) from M5.out.below hbp)
 have K6' := K5.out.keep (M5.out.to (q := q + 1) (by omega) (by omega) (by omega)) (Stp.of_below hbp)
 have K6 : Hid (StK H bm (cnt + 1) [.int .i64 8, .int .i64 op, .string tx, .slice na nm.length nc, .slice sa 0 sc, .slice pa 0 pc, .slice ba 0 bc, .slice ea 0 ec] w (w6.alloc (.cells #[.pointer (some ⟨bm, 0, none⟩), .int .i32 ln, .int .i32 1] 63)).drew bi bf bi bf) := Li ⟨K6'.hmb, K6'.hsb, K6'.hob, K6'.hfb, K6'.hs.drew⟩
 have P6 : Hid (Blk (w6.alloc (.cells #[.pointer (some ⟨bm, 0, none⟩), .int .i32 ln, .int .i32 1] 63)).drew pb 63 [.pointer (some ⟨bm, 0, none⟩), .int .i32 ln, .int .i32 1]) := Li hpk
 have WT1 := Li (want3_any H bm bi bf q q (q + 1) (w6.alloc (.cells #[.pointer (some ⟨bm, 0, none⟩), .int .i32 ln, .int .i32 1] 63)).drew M6.out)
 have KS : Hid (∀ W bi' bf', StK H bm (cnt + 1) [.int .i64 8, .int .i64 op, .string tx, .slice na nm.length nc, .slice sa 0 sc, .slice pa 0 pc, .slice ba 0 bc, .slice ea 0 ec] w W bi bf bi' bf' → W.cell? ⟨w.heap.size, 0, none⟩ = some (.pointer (some ⟨bm, 0, none⟩)) ∧ W.cell? ⟨w.heap.size + 1, 0, none⟩ = some (.int .i64 8) ∧ W.cell? ⟨w.heap.size + 1, 4, none⟩ = some (.slice sa 0 sc) ∧ W.cell? ⟨w.heap.size + 1 + 1 + 1, 8, none⟩ = some (.int .i64 0)) := Li (fun W bi' bf' h => ⟨h.hmb.cell 0 (by simp), h.hsb.cell 0 (by simp), h.hsb.cell 4 (by simp), h.hfb.cell 8 (by simp)⟩)
 clear hb6 hbp hpk K6' K5 M5
 go_upto_region 7 with fail
 refine wp_region_noPanic ?_
 refine wp_region_held_drew (S := fun W => W.cell? ⟨w.heap.size, 0, none⟩ = some (.pointer (some ⟨bm, 0, none⟩)) ∧ W.cell? ⟨w.heap.size + 1, 0, none⟩ = some (.int .i64 8) ∧ W.cell? ⟨w.heap.size + 1, 4, none⟩ = some (.slice sa 0 sc) ∧ W.cell? ⟨w.heap.size + 1 + 1 + 1, 8, none⟩ = some (.int .i64 0)) (by kernel_rfl) ?_ (fun hHeld => ?_)
 · (try dsimp only)
   with_reducible first | exact KS.out _ _ _ K6.out | exact KS.out _ _ _ K1.out | exact KS.out _ _ _ K2.out | fail
 refine tkA 0 ?_
 refine tkA 1 ?_
 refine tkA 2 ?_
 refine tkA 3 ?_
 refine tkA 4 ?_
 refine tkA 5 ?_
 refine tkA 6 ?_
 refine tkA 7 ?_
 refine tkA 8 ?_
 refine wpAnyH_ready (rs := [9]) (by kernel_rfl) (by simp) ?_
 refine AllReadyH.cons (o := _) (by simp only [List.getElem?_toArray, List.getElem?_cons_zero, List.getElem?_cons_succ]; rfl) (fun K hK => ?_) AllReadyH.nil
 go_simp
 go_at_call 36
 with_reducible refine WT1.out.mono ?_
 rintro e wt1 ⟨rfl, hs1, hm1⟩
 obtain ⟨k1, p1, wn⟩ := st_nxt K6.out P6.out M6.out hs1 hm1
 have K1 := Li k1
 have P1 := Li p1
 have M1 := Li hm1
 have WT2 := Li wn
 clear hs1 hm1 k1 p1 wn
 refine hK.out _ _ ?_ (fun hHeld => ?_)
 · (try dsimp only)
   with_reducible first | exact KS.out _ _ _ K6.out | exact KS.out _ _ _ K1.out | exact KS.out _ _ _ K2.out | fail
 clear hK K
 try simp only [Act.put, sA, s0, s1]
 refine tkA 10 ?_
 refine tkA 11 ?_
 refine tkA 12 ?_
 refine tkA 13 ?_
 refine tkA 14 ?_
 refine tkA 15 ?_
 refine tkA 16 ?_
 refine tkA 17 ?_
 refine tkA 18 ?_
 refine tkA 19 ?_
 refine tkA 20 ?_
 refine tkA 21 ?_
 refine tkU 22 ?_
 refine tkU 23 ?_
 refine tkU 24 ?_
 refine tkU 25 ?_
 refine tkU 26 ?_
 refine tkU 27 ?_
 refine tkU 28 ?_
 refine tkU 29 ?_
 refine tkU 30 ?_
 refine tkA 31 ?_
 refine wpAnyH_ready (rs := [32]) (by kernel_rfl) (by simp) ?_
 refine AllReadyH.cons (o := _) (by simp only [List.getElem?_toArray, List.getElem?_cons_zero, List.getElem?_cons_succ]; rfl) (fun K hK => ?_) AllReadyH.nil
 go_simp
 go_at_call 36
 with_reducible refine WT2.out.mono ?_
 rintro e wt2 ⟨rfl, hs2, hm2⟩
 obtain ⟨k2, p2, wn⟩ := st_nxt K1.out P1.out M1.out hs2 hm2
 have K2 := Li k2
 have P2 := Li p2
 have M2 := Li hm2
 clear hs2 hm2 k2 p2 wn
 refine hK.out _ _ ?_ (fun hHeld => ?_)
 · (try dsimp only)
   with_reducible first | exact KS.out _ _ _ K6.out | exact KS.out _ _ _ K1.out | exact KS.out _ _ _ K2.out | fail
 clear hK K
 try simp only [Act.put, sA, s0, s1]
 refine tkA 33 ?_
 refine tkA 34 ?_
 refine wpAnyH_done (by kernel_rfl) ?_ _
 refine NoPanic.normal ?_
 try simp only [Act.put, sA, s0, s1]
 have q0 := K2.out.hmb.cell 0 (by simp)
 have s0 := K2.out.hsb.cell 0 (by simp)
 have s1 := K2.out.hsb.cell 1 (by simp)
 have s2 := K2.out.hsb.cell 2 (by simp)
 have s3 := K2.out.hsb.cell 3 (by simp)
 have s4 := K2.out.hsb.cell 4 (by simp)
 have s5 := K2.out.hsb.cell 5 (by simp)
 have s6 := K2.out.hsb.cell 6 (by simp)
 have s7 := K2.out.hsb.cell 7 (by simp)
 have hst2 := K2.out.hs.size
 have HO2 : Hid (Old R B wt2) := Li (HO.out.below ((K2.out.hs.below (H := H) (by omega) (by omega) (by omega) (by omega)).mono hBH))
 clear KS WT1 K6 M6 P6
 have A0 : Hid (Acc H bm bi bf q pb (w.heap.size + 1) ln 42 [.int .i64 8, .int .i64 op, .string tx, .slice na nm.length nc, .slice sa 0 sc, .slice pa 0 pc, .slice ba 0 bc, .slice ea 0 ec] wt2 1 bi bf wt2) := Li ⟨P2.out, K2.out.hsb, Stp.refl _ _ _ _ _, M2.out.to (by omega) (by omega) (by omega), by omega, fr_stmt⟩
 obtain ⟨WB, hWB⟩ : ∃ WB, WB = (wt2.alloc (.cells #[.int .i8 52, .int .i8 53, .int .i8 65] 181)).drew := ⟨_, rfl⟩
 have hbB : Below wt2.heap.size wt2 WB := by rw [hWB]; exact ((Below.refl _ _).alloc (Nat.le_refl _) _).drew
 have A1 := Li (A0.out.keep (Stp.of_below hbB) (k := 0) (A0.out.hm.below hbB)).1
 have TB : Hid (Blk WB wt2.heap.size 181 [.int .i8 52, .int .i8 53, .int .i8 65]) := Li (by rw [hWB]; exact Blk.new wt2 _ _)
 have h8 : MPost H bm bi bf q (ctS (Tr.mk 8 op tx v nm [] [] [] [])) (nmS (Tr.mk 8 op tx v nm [] [] [] [])) wt2 (.returned (.iface 96 (.pointer (some ⟨WB.heap.size, 0, none⟩)))) (WB.alloc (.cells #[.pointer none, .int .i8 52, .pointer (some ⟨bm, 0, none⟩), .int .i32 ln, .int .i32 1] 183)) := A1.out.fin (L := [.pointer none, .int .i8 52, .pointer (some ⟨bm, 0, none⟩), .int .i32 ln, .int .i32 1]) (T := 96) (e := 183) (sl := []) (by simp [tbl]) .nil .nil (by rw [ctS_mk]; simp) (by rw [ctS_mk]; simp) (by rw [nmS_mk]; simp)
 obtain ⟨y9, r1, r2, r3, r4, r5, hfin⟩ := K2.out.close (M2.out.to (q := q + 1) (by omega) (by omega) (by omega)) h8 hc0 (by have := HCT.out; omega) (by omega)
 have FIN := Li hfin
 clear h8
 have KS : Hid (∀ W, Blk W (w.heap.size + 1) 42 [.int .i64 8, .int .i64 op, .string tx, .slice na nm.length nc, .slice sa 0 sc, .slice pa 0 pc, .slice ba 0 bc, .slice ea 0 ec] → Blk W wt2.heap.size 181 [.int .i8 52, .int .i8 53, .int .i8 65] → Blk W pb 63 [.pointer (some ⟨bm, 0, none⟩), .int .i32 ln, .int .i32 1] → W.cell? ⟨w.heap.size + 1, 0, none⟩ = some (.int .i64 8) ∧ W.cell? ⟨wt2.heap.size, 0, none⟩ = some (.int .i8 52) ∧ W.cell? ⟨pb, 0, none⟩ = some (.pointer (some ⟨bm, 0, none⟩)) ∧ W.cell? ⟨pb, 1, none⟩ = some (.int .i32 ln) ∧ W.cell? ⟨pb, 2, none⟩ = some (.int .i32 1)) := Li (fun W h1 h2 h3 => ⟨h1.cell 0 (by simp), h2.cell 0 (by simp), h3.cell 0 (by simp), h3.cell 1 (by simp), h3.cell 2 (by simp)⟩)
 have E1 := Li A1.out.he
 have P3 := Li A1.out.hp
 have E2 : Hid (Blk ((wt2.alloc (.cells #[.int .i8 52, .int .i8 53, .int .i8 65] 181)).alloc (.cells #[.pointer none, .int .i8 52, .pointer (some ⟨bm, 0, none⟩), .int .i32 ln, .int .i32 1] 183)).drew (w.heap.size + 1) 42 [.int .i64 8, .int .i64 op, .string tx, .slice na nm.length nc, .slice sa 0 sc, .slice pa 0 pc, .slice ba 0 bc, .slice ea 0 ec]) := Li (by have h0 := E1.out.alloc (.cells #[.pointer none, .int .i8 52, .pointer (some ⟨bm, 0, none⟩), .int .i32 ln, .int .i32 1] 183); rw [hWB] at h0; exact h0)
 have TB2 : Hid (Blk ((wt2.alloc (.cells #[.int .i8 52, .int .i8 53, .int .i8 65] 181)).alloc (.cells #[.pointer none, .int .i8 52, .pointer (some ⟨bm, 0, none⟩), .int .i32 ln, .int .i32 1] 183)).drew wt2.heap.size 181 [.int .i8 52, .int .i8 53, .int .i8 65]) := Li (by have h0 := TB.out.alloc (.cells #[.pointer none, .int .i8 52, .pointer (some ⟨bm, 0, none⟩), .int .i32 ln, .int .i32 1] 183); rw [hWB] at h0; exact h0)
 have P4 : Hid (Blk ((wt2.alloc (.cells #[.int .i8 52, .int .i8 53, .int .i8 65] 181)).alloc (.cells #[.pointer none, .int .i8 52, .pointer (some ⟨bm, 0, none⟩), .int .i32 ln, .int .i32 1] 183)).drew pb 63 [.pointer (some ⟨bm, 0, none⟩), .int .i32 ln, .int .i32 1]) := Li (by have h0 := P3.out.alloc (.cells #[.pointer none, .int .i8 52, .pointer (some ⟨bm, 0, none⟩), .int .i32 ln, .int .i32 1] 183); rw [hWB] at h0; exact h0)
 have hwk : IntKind.i64.wrap ((8 : Int) - 8) = 0 := by decide
 have hwk2 : IntKind.i64.wrap 0 = 0 := by decide
 clear hbB A0 A1
 subst hWB
 have FIN : Hid (MPost H bm bi bf q (ctS (Tr.mk 8 op tx v nm [] [] [] [])) (nmS (Tr.mk 8 op tx v nm [] [] [] [])) w (.returned (.iface 96 (.pointer (some ⟨wt2.heap.size + 1, 0, none⟩)))) (((wt2.alloc (.cells #[.int .i8 52, .int .i8 53, .int .i8 65] 181)).alloc (.cells #[.pointer none, .int .i8 52, .pointer (some ⟨bm, 0, none⟩), .int .i32 ln, .int .i32 1] 183)).drew.setCell ⟨bm, 2, none⟩ (.int .i32 (cnt + 1)))) := Li (by have h0 := FIN.out; simp at h0; exact h0)
 go_upto_region 22 with fail
 go_region_held3 (fun W => W.cell? ⟨w.heap.size + 1, 0, none⟩ = some (.int .i64 8) ∧ W.cell? ⟨wt2.heap.size, 0, none⟩ = some (.int .i8 52) ∧ W.cell? ⟨pb, 0, none⟩ = some (.pointer (some ⟨bm, 0, none⟩)) ∧ W.cell? ⟨pb, 1, none⟩ = some (.int .i32 ln) ∧ W.cell? ⟨pb, 2, none⟩ = some (.int .i32 1)) (with_reducible first | exact KS.out _ E1.out TB.out P3.out | exact KS.out _ E2.out TB2.out P4.out | fail) (fail)
 go_wp2_with fail
 refine leaves_cons (f := 34) (args := #[.pointer (some ⟨w.heap.size + 1 + 1, 0, none⟩), .pointer (some ⟨w.heap.size, 0, none⟩)]) (by simp) (by kernel_rfl) ?_
 refine (line_deferred .returning _ bm _ _ (cnt + 1) y9 r1 r2 r3 r4 r5).mono ?_
 rintro e u' w'' ⟨rfl, rfl, rfl⟩
 refine ⟨_, ?_, FIN.out⟩
 simp [results, Tryz.results28, go_sem]
set_option maxHeartbeats 12800000 in
theorem mst_k9 {R : Nat → Nat → Option Value} {B H bm : Nat} (op : Int) (tx : ByteArray) (v : VV) (nm : List ByteArray) (na sa pa ba ea : Option Addr) (nc sc pc bc ec : Nat) (w : World) (bi bf q : Nat) (ho : Old R B w) (hBH : B ≤ H) (hm : MK w H bm bi bf q) (hq : q + ctS (Tr.mk 9 op tx v nm [] [] [] []) ≤ 8192) :
   Calls Tryz.prog 28 #[.pointer (some ⟨bm, 0, none⟩), .agg #[.int .i64 9, .int .i64 op, .string tx, .slice na nm.length nc, .slice sa 0 sc, .slice pa 0 pc, .slice ba 0 bc, .slice ea 0 ec]] w (MPost H bm bi bf q (ctS (Tr.mk 9 op tx v nm [] [] [] [])) (nmS (Tr.mk 9 op tx v nm [] [] [] [])) w) := by
 have hmf : ∀ (fn : Fn) (first cap : Array Value) (w : World), (Instr.makeFunc fn first cap).run Tryz.prog w = .ok (.func fn first cap) w := fun _ _ _ _ => rfl
 have HM := Li hm
 obtain ⟨nm0, cnt, line, vi, vf, ni, nf, xi, xf, hk, hi, hf, hqq, e1, e2, hH⟩ := hm
 have hl := HM.out.lts
 have c1 := hk.cell 1 (by simp)
 have f1 := hk.free 1
 have hct : 1 ≤ ctS (Tr.mk 9 op tx v nm [] [] [] []) := by rw [ctS_mk]; omega
 have hcn1 : cnt + 1 ≤ 2147483647 := by omega
 have hc0 : 0 ≤ cnt + 1 := by omega
 have hcq : cnt + 1 ≤ (q : Int) + 1 := by omega
 have hk3 : Blk ((((w.setCell ⟨bm, 1, none⟩ (.int .i32 (cnt + 1))).alloc (.cells #[.pointer (some ⟨bm, 0, none⟩)] 50)).alloc (.cells #[.int .i64 9, .int .i64 op, .string tx, .slice na nm.length nc, .slice sa 0 sc, .slice pa 0 pc, .slice ba 0 bc, .slice ea 0 ec] 42)).alloc (.cells #[.int .i32 (cnt + 1)] 21)) bm 83 _ := (((hk.set 1 (.int .i32 (cnt + 1))).alloc _).alloc _).alloc _
 have c2a := hk3.cell 2 (by simp)
 have f2a := hk3.free 2
 obtain ⟨hm5, hk5⟩ := st_start (SS := [.int .i64 9, .int .i64 op, .string tx, .slice na nm.length nc, .slice sa 0 sc, .slice pa 0 pc, .slice ba 0 bc, .slice ea 0 ec]) HM.out hc0 hcq
 have m0 := cell_under (hk5.hmb.cell 0 (by simp)) (by simp [World.setCell]; omega)
 have HPOS := Li (pos_any H bm bi bf (q + 1) _ (hm5.to (by omega) (by omega) (by omega)))
 have M5 := Li hm5
 have K5 := Li hk5
 have HO := Li ho
 have HQ := Li hq
 have HCT := Li hct
 clear hk hi hf hqq e1 e2 hk3 hm5 hk5 ho hq hct
 go_enter_defers Tryz.func28, Tryz.ntmps28
 go_wp2_with fail
 refine HPOS.out.mono ?_
 rintro e w6 ⟨ln, rfl, hb6⟩
 clear HPOS m0 c2a f2a
 obtain ⟨pb, hpb⟩ : ∃ pb, w6.heap.size = pb := ⟨_, rfl⟩
 have hbp := hb6.alloc hb6.size (.cells #[.pointer (some ⟨bm, 0, none⟩), .int .i32 ln, .int .i32 1] 63)
 have hpk : Blk (w6.alloc (.cells #[.pointer (some ⟨bm, 0, none⟩), .int .i32 ln, .int .i32 1] 63)) pb 63 [.pointer (some ⟨bm, 0, none⟩), .int .i32 ln, .int .i32 1] := by rw [← hpb]; exact Blk.new w6 _ _
 have M6 : Hid (MK3 (w6.alloc (.cells #[.pointer (some ⟨bm, 0, none⟩), .int .i32 ln, .int .i32 1] 63)).drew H bm bi bf q q (q + 1)) := Li (show MK3 (w6.alloc (.cells #[.pointer (some ⟨bm, 0, none⟩), .int .i32 ln, .int .i32 1] 63)) H bm bi bf q q (q + 1) from M5.out.below hbp)
 have K6' := K5.out.keep (M5.out.to (q := q + 1) (by omega) (by omega) (by omega)) (Stp.of_below hbp)
 have K6 : Hid (StK H bm (cnt + 1) [.int .i64 9, .int .i64 op, .string tx, .slice na nm.length nc, .slice sa 0 sc, .slice pa 0 pc, .slice ba 0 bc, .slice ea 0 ec] w (w6.alloc (.cells #[.pointer (some ⟨bm, 0, none⟩), .int .i32 ln, .int .i32 1] 63)).drew bi bf bi bf) := Li ⟨K6'.hmb, K6'.hsb, K6'.hob, K6'.hfb, K6'.hs.drew⟩
 have P6 : Hid (Blk (w6.alloc (.cells #[.pointer (some ⟨bm, 0, none⟩), .int .i32 ln, .int .i32 1] 63)).drew pb 63 [.pointer (some ⟨bm, 0, none⟩), .int .i32 ln, .int .i32 1]) := Li hpk
 have WT1 := Li (want3_any H bm bi bf q q (q + 1) (w6.alloc (.cells #[.pointer (some ⟨bm, 0, none⟩), .int .i32 ln, .int .i32 1] 63)).drew M6.out)
 have KS : Hid (∀ W bi' bf', StK H bm (cnt + 1) [.int .i64 9, .int .i64 op, .string tx, .slice na nm.length nc, .slice sa 0 sc, .slice pa 0 pc, .slice ba 0 bc, .slice ea 0 ec] w W bi bf bi' bf' → W.cell? ⟨w.heap.size, 0, none⟩ = some (.pointer (some ⟨bm, 0, none⟩)) ∧ W.cell? ⟨w.heap.size + 1, 0, none⟩ = some (.int .i64 9) ∧ W.cell? ⟨w.heap.size + 1, 4, none⟩ = some (.slice sa 0 sc) ∧ W.cell? ⟨w.heap.size + 1 + 1 + 1, 9, none⟩ = some (.int .i64 0)) := Li (fun W bi' bf' h => ⟨h.hmb.cell 0 (by simp), h.hsb.cell 0 (by simp), h.hsb.cell 4 (by simp), h.hfb.cell 9 (by simp)⟩)
 clear hb6 hbp hpk K6' K5 M5
 go_upto_region 7 with fail
 refine wp_region_noPanic ?_
 refine wp_region_held_drew (S := fun W => W.cell? ⟨w.heap.size, 0, none⟩ = some (.pointer (some ⟨bm, 0, none⟩)) ∧ W.cell? ⟨w.heap.size + 1, 0, none⟩ = some (.int .i64 9) ∧ W.cell? ⟨w.heap.size + 1, 4, none⟩ = some (.slice sa 0 sc) ∧ W.cell? ⟨w.heap.size + 1 + 1 + 1, 9, none⟩ = some (.int .i64 0)) (by kernel_rfl) ?_ (fun hHeld => ?_)
 · (try dsimp only)
   with_reducible first | exact KS.out _ _ _ K6.out | exact KS.out _ _ _ K1.out | exact KS.out _ _ _ K2.out | fail
 refine tkA 0 ?_
 refine tkA 1 ?_
 refine tkA 2 ?_
 refine tkA 3 ?_
 refine tkA 4 ?_
 refine tkA 5 ?_
 refine tkA 6 ?_
 refine tkA 7 ?_
 refine tkA 8 ?_
 refine wpAnyH_ready (rs := [9]) (by kernel_rfl) (by simp) ?_
 refine AllReadyH.cons (o := _) (by simp only [List.getElem?_toArray, List.getElem?_cons_zero, List.getElem?_cons_succ]; rfl) (fun K hK => ?_) AllReadyH.nil
 go_simp
 go_at_call 36
 with_reducible refine WT1.out.mono ?_
 rintro e wt1 ⟨rfl, hs1, hm1⟩
 obtain ⟨k1, p1, wn⟩ := st_nxt K6.out P6.out M6.out hs1 hm1
 have K1 := Li k1
 have P1 := Li p1
 have M1 := Li hm1
 have WT2 := Li wn
 clear hs1 hm1 k1 p1 wn
 refine hK.out _ _ ?_ (fun hHeld => ?_)
 · (try dsimp only)
   with_reducible first | exact KS.out _ _ _ K6.out | exact KS.out _ _ _ K1.out | exact KS.out _ _ _ K2.out | fail
 clear hK K
 try simp only [Act.put, sA, s0, s1]
 refine tkA 10 ?_
 refine tkA 11 ?_
 refine tkA 12 ?_
 refine tkA 13 ?_
 refine tkA 14 ?_
 refine tkA 15 ?_
 refine tkA 16 ?_
 refine tkA 17 ?_
 refine tkA 18 ?_
 refine tkA 19 ?_
 refine tkA 20 ?_
 refine tkA 21 ?_
 refine tkU 22 ?_
 refine tkU 23 ?_
 refine tkU 24 ?_
 refine tkU 25 ?_
 refine tkU 26 ?_
 refine tkU 27 ?_
 refine tkU 28 ?_
 refine tkU 29 ?_
 refine tkU 30 ?_
 refine tkA 31 ?_
 refine wpAnyH_ready (rs := [32]) (by kernel_rfl) (by simp) ?_
 refine AllReadyH.cons (o := _) (by simp only [List.getElem?_toArray, List.getElem?_cons_zero, List.getElem?_cons_succ]; rfl) (fun K hK => ?_) AllReadyH.nil
 go_simp
 go_at_call 36
 with_reducible refine WT2.out.mono ?_
 rintro e wt2 ⟨rfl, hs2, hm2⟩
 obtain ⟨k2, p2, wn⟩ := st_nxt K1.out P1.out M1.out hs2 hm2
 have K2 := Li k2
 have P2 := Li p2
 have M2 := Li hm2
 clear hs2 hm2 k2 p2 wn
 refine hK.out _ _ ?_ (fun hHeld => ?_)
 · (try dsimp only)
   with_reducible first | exact KS.out _ _ _ K6.out | exact KS.out _ _ _ K1.out | exact KS.out _ _ _ K2.out | fail
 clear hK K
 try simp only [Act.put, sA, s0, s1]
 refine tkA 33 ?_
 refine tkA 34 ?_
 refine wpAnyH_done (by kernel_rfl) ?_ _
 refine NoPanic.normal ?_
 try simp only [Act.put, sA, s0, s1]
 have q0 := K2.out.hmb.cell 0 (by simp)
 have s0 := K2.out.hsb.cell 0 (by simp)
 have s1 := K2.out.hsb.cell 1 (by simp)
 have s2 := K2.out.hsb.cell 2 (by simp)
 have s3 := K2.out.hsb.cell 3 (by simp)
 have s4 := K2.out.hsb.cell 4 (by simp)
 have s5 := K2.out.hsb.cell 5 (by simp)
 have s6 := K2.out.hsb.cell 6 (by simp)
 have s7 := K2.out.hsb.cell 7 (by simp)
 have hst2 := K2.out.hs.size
 have HO2 : Hid (Old R B wt2) := Li (HO.out.below ((K2.out.hs.below (H := H) (by omega) (by omega) (by omega) (by omega)).mono hBH))
 clear KS WT1 K6 M6 P6
 have A0 : Hid (Acc H bm bi bf q pb (w.heap.size + 1) ln 42 [.int .i64 9, .int .i64 op, .string tx, .slice na nm.length nc, .slice sa 0 sc, .slice pa 0 pc, .slice ba 0 bc, .slice ea 0 ec] wt2 1 bi bf wt2) := Li ⟨P2.out, K2.out.hsb, Stp.refl _ _ _ _ _, M2.out.to (by omega) (by omega) (by omega), by omega, fr_stmt⟩
 obtain ⟨WB, hWB⟩ : ∃ WB, WB = (wt2.alloc (.cells #[.int .i8 52, .int .i8 53, .int .i8 65] 181)).drew := ⟨_, rfl⟩
 have hbB : Below wt2.heap.size wt2 WB := by rw [hWB]; exact ((Below.refl _ _).alloc (Nat.le_refl _) _).drew
 have A1 := Li (A0.out.keep (Stp.of_below hbB) (k := 0) (A0.out.hm.below hbB)).1
 have TB : Hid (Blk WB wt2.heap.size 181 [.int .i8 52, .int .i8 53, .int .i8 65]) := Li (by rw [hWB]; exact Blk.new wt2 _ _)
 have h8 : MPost H bm bi bf q (ctS (Tr.mk 9 op tx v nm [] [] [] [])) (nmS (Tr.mk 9 op tx v nm [] [] [] [])) wt2 (.returned (.iface 96 (.pointer (some ⟨WB.heap.size, 0, none⟩)))) (WB.alloc (.cells #[.pointer none, .int .i8 53, .pointer (some ⟨bm, 0, none⟩), .int .i32 ln, .int .i32 1] 183)) := A1.out.fin (L := [.pointer none, .int .i8 53, .pointer (some ⟨bm, 0, none⟩), .int .i32 ln, .int .i32 1]) (T := 96) (e := 183) (sl := []) (by simp [tbl]) .nil .nil (by rw [ctS_mk]; simp) (by rw [ctS_mk]; simp) (by rw [nmS_mk]; simp)
 obtain ⟨y9, r1, r2, r3, r4, r5, hfin⟩ := K2.out.close (M2.out.to (q := q + 1) (by omega) (by omega) (by omega)) h8 hc0 (by have := HCT.out; omega) (by omega)
 have FIN := Li hfin
 clear h8
 have KS : Hid (∀ W, Blk W (w.heap.size + 1) 42 [.int .i64 9, .int .i64 op, .string tx, .slice na nm.length nc, .slice sa 0 sc, .slice pa 0 pc, .slice ba 0 bc, .slice ea 0 ec] → Blk W wt2.heap.size 181 [.int .i8 52, .int .i8 53, .int .i8 65] → Blk W pb 63 [.pointer (some ⟨bm, 0, none⟩), .int .i32 ln, .int .i32 1] → W.cell? ⟨w.heap.size + 1, 0, none⟩ = some (.int .i64 9) ∧ W.cell? ⟨wt2.heap.size, 1, none⟩ = some (.int .i8 53) ∧ W.cell? ⟨pb, 0, none⟩ = some (.pointer (some ⟨bm, 0, none⟩)) ∧ W.cell? ⟨pb, 1, none⟩ = some (.int .i32 ln) ∧ W.cell? ⟨pb, 2, none⟩ = some (.int .i32 1)) := Li (fun W h1 h2 h3 => ⟨h1.cell 0 (by simp), h2.cell 1 (by simp), h3.cell 0 (by simp), h3.cell 1 (by simp), h3.cell 2 (by simp)⟩)
 have E1 := Li A1.out.he
 have P3 := Li A1.out.hp
 have E2 : Hid (Blk ((wt2.alloc (.cells #[.int .i8 52, .int .i8 53, .int .i8 65] 181)).alloc (.cells #[.pointer none, .int .i8 53, .pointer (some ⟨bm, 0, none⟩), .int .i32 ln, .int .i32 1] 183)).drew (w.heap.size + 1) 42 [.int .i64 9, .int .i64 op, .string tx, .slice na nm.length nc, .slice sa 0 sc, .slice pa 0 pc, .slice ba 0 bc, .slice ea 0 ec]) := Li (by have h0 := E1.out.alloc (.cells #[.pointer none, .int .i8 53, .pointer (some ⟨bm, 0, none⟩), .int .i32 ln, .int .i32 1] 183); rw [hWB] at h0; exact h0)
 have TB2 : Hid (Blk ((wt2.alloc (.cells #[.int .i8 52, .int .i8 53, .int .i8 65] 181)).alloc (.cells #[.pointer none, .int .i8 53, .pointer (some ⟨bm, 0, none⟩), .int .i32 ln, .int .i32 1] 183)).drew wt2.heap.size 181 [.int .i8 52, .int .i8 53, .int .i8 65]) := Li (by have h0 := TB.out.alloc (.cells #[.pointer none, .int .i8 53, .pointer (some ⟨bm, 0, none⟩), .int .i32 ln, .int .i32 1] 183); rw [hWB] at h0; exact h0)
 have P4 : Hid (Blk ((wt2.alloc (.cells #[.int .i8 52, .int .i8 53, .int .i8 65] 181)).alloc (.cells #[.pointer none, .int .i8 53, .pointer (some ⟨bm, 0, none⟩), .int .i32 ln, .int .i32 1] 183)).drew pb 63 [.pointer (some ⟨bm, 0, none⟩), .int .i32 ln, .int .i32 1]) := Li (by have h0 := P3.out.alloc (.cells #[.pointer none, .int .i8 53, .pointer (some ⟨bm, 0, none⟩), .int .i32 ln, .int .i32 1] 183); rw [hWB] at h0; exact h0)
 have hwk : IntKind.i64.wrap ((9 : Int) - 8) = 1 := by decide
 have hwk2 : IntKind.i64.wrap 1 = 1 := by decide
 clear hbB A0 A1
 subst hWB
 have FIN : Hid (MPost H bm bi bf q (ctS (Tr.mk 9 op tx v nm [] [] [] [])) (nmS (Tr.mk 9 op tx v nm [] [] [] [])) w (.returned (.iface 96 (.pointer (some ⟨wt2.heap.size + 1, 0, none⟩)))) (((wt2.alloc (.cells #[.int .i8 52, .int .i8 53, .int .i8 65] 181)).alloc (.cells #[.pointer none, .int .i8 53, .pointer (some ⟨bm, 0, none⟩), .int .i32 ln, .int .i32 1] 183)).drew.setCell ⟨bm, 2, none⟩ (.int .i32 (cnt + 1)))) := Li (by have h0 := FIN.out; simp at h0; exact h0)
 go_upto_region 22 with fail
 go_region_held3 (fun W => W.cell? ⟨w.heap.size + 1, 0, none⟩ = some (.int .i64 9) ∧ W.cell? ⟨wt2.heap.size, 1, none⟩ = some (.int .i8 53) ∧ W.cell? ⟨pb, 0, none⟩ = some (.pointer (some ⟨bm, 0, none⟩)) ∧ W.cell? ⟨pb, 1, none⟩ = some (.int .i32 ln) ∧ W.cell? ⟨pb, 2, none⟩ = some (.int .i32 1)) (with_reducible first | exact KS.out _ E1.out TB.out P3.out | exact KS.out _ E2.out TB2.out P4.out | fail) (fail)
 go_wp2_with fail
 refine leaves_cons (f := 34) (args := #[.pointer (some ⟨w.heap.size + 1 + 1, 0, none⟩), .pointer (some ⟨w.heap.size, 0, none⟩)]) (by simp) (by kernel_rfl) ?_
 refine (line_deferred .returning _ bm _ _ (cnt + 1) y9 r1 r2 r3 r4 r5).mono ?_
 rintro e u' w'' ⟨rfl, rfl, rfl⟩
 refine ⟨_, ?_, FIN.out⟩
 simp [results, Tryz.results28, go_sem]
set_option maxHeartbeats 12800000 in
theorem mst_k10 {R : Nat → Nat → Option Value} {B H bm : Nat} (op : Int) (tx : ByteArray) (v : VV) (nm : List ByteArray) (na sa pa ba ea : Option Addr) (nc sc pc bc ec : Nat) (w : World) (bi bf q : Nat) (ho : Old R B w) (hBH : B ≤ H) (hm : MK w H bm bi bf q) (hq : q + ctS (Tr.mk 10 op tx v nm [] [] [] []) ≤ 8192) :
   Calls Tryz.prog 28 #[.pointer (some ⟨bm, 0, none⟩), .agg #[.int .i64 10, .int .i64 op, .string tx, .slice na nm.length nc, .slice sa 0 sc, .slice pa 0 pc, .slice ba 0 bc, .slice ea 0 ec]] w (MPost H bm bi bf q (ctS (Tr.mk 10 op tx v nm [] [] [] [])) (nmS (Tr.mk 10 op tx v nm [] [] [] [])) w) := by
 have hmf : ∀ (fn : Fn) (first cap : Array Value) (w : World), (Instr.makeFunc fn first cap).run Tryz.prog w = .ok (.func fn first cap) w := fun _ _ _ _ => rfl
 have HM := Li hm
 obtain ⟨nm0, cnt, line, vi, vf, ni, nf, xi, xf, hk, hi, hf, hqq, e1, e2, hH⟩ := hm
 have hl := HM.out.lts
 have c1 := hk.cell 1 (by simp)
 have f1 := hk.free 1
 have hct : 1 ≤ ctS (Tr.mk 10 op tx v nm [] [] [] []) := by rw [ctS_mk]; omega
 have hcn1 : cnt + 1 ≤ 2147483647 := by omega
 have hc0 : 0 ≤ cnt + 1 := by omega
 have hcq : cnt + 1 ≤ (q : Int) + 1 := by omega
 have hk3 : Blk ((((w.setCell ⟨bm, 1, none⟩ (.int .i32 (cnt + 1))).alloc (.cells #[.pointer (some ⟨bm, 0, none⟩)] 50)).alloc (.cells #[.int .i64 10, .int .i64 op, .string tx, .slice na nm.length nc, .slice sa 0 sc, .slice pa 0 pc, .slice ba 0 bc, .slice ea 0 ec] 42)).alloc (.cells #[.int .i32 (cnt + 1)] 21)) bm 83 _ := (((hk.set 1 (.int .i32 (cnt + 1))).alloc _).alloc _).alloc _
 have c2a := hk3.cell 2 (by simp)
 have f2a := hk3.free 2
 obtain ⟨hm5, hk5⟩ := st_start (SS := [.int .i64 10, .int .i64 op, .string tx, .slice na nm.length nc, .slice sa 0 sc, .slice pa 0 pc, .slice ba 0 bc, .slice ea 0 ec]) HM.out hc0 hcq
 have m0 := cell_under (hk5.hmb.cell 0 (by simp)) (by simp [World.setCell]; omega)
 have HPOS := Li (pos_any H bm bi bf (q + 1) _ (hm5.to (by omega) (by omega) (by omega)))
 have M5 := Li hm5
 have K5 := Li hk5
 have HO := Li ho
 have HQ := Li hq
 have HCT := Li hct
 clear hk hi hf hqq e1 e2 hk3 hm5 hk5 ho hq hct
 go_enter_defers Tryz.func28, Tryz.ntmps28
 go_wp2_with fail
 refine HPOS.out.mono ?_
 rintro e w6 ⟨ln, rfl, hb6⟩
 clear HPOS m0 c2a f2a
 obtain ⟨pb, hpb⟩ : ∃ pb, w6.heap.size = pb := ⟨_, rfl⟩
 have hbp := hb6.alloc hb6.size (.cells #[.pointer (some ⟨bm, 0, none⟩), .int .i32 ln, .int .i32 1] 63)
 have hpk : Blk (w6.alloc (.cells #[.pointer (some ⟨bm, 0, none⟩), .int .i32 ln, .int .i32 1] 63)) pb 63 [.pointer (some ⟨bm, 0, none⟩), .int .i32 ln, .int .i32 1] := by rw [← hpb]; exact Blk.new w6 _ _
 have M6 : Hid (MK3 (w6.alloc (.cells #[.pointer (some ⟨bm, 0, none⟩), .int .i32 ln, .int .i32 1] 63)).drew H bm bi bf q q (q + 1)) := Li (show MK3 (w6.alloc (.cells #[.pointer (some ⟨bm, 0, none⟩), .int .i32 ln, .int .i32 1] 63)) H bm bi bf q q (q + 1) from M5.out.below hbp)
 have K6' := K5.out.keep (M5.out.to (q := q + 1) (by omega) (by omega) (by omega)) (Stp.of_below hbp)
 have K6 : Hid (StK H bm (cnt + 1) [.int .i64 10, .int .i64 op, .string tx, .slice na nm.length nc, .slice sa 0 sc, .slice pa 0 pc, .slice ba 0 bc, .slice ea 0 ec] w (w6.alloc (.cells #[.pointer (some ⟨bm, 0, none⟩), .int .i32 ln, .int .i32 1] 63)).drew bi bf bi bf) := Li ⟨K6'.hmb, K6'.hsb, K6'.hob, K6'.hfb, K6'.hs.drew⟩
 have P6 : Hid (Blk (w6.alloc (.cells #[.pointer (some ⟨bm, 0, none⟩), .int .i32 ln, .int .i32 1] 63)).drew pb 63 [.pointer (some ⟨bm, 0, none⟩), .int .i32 ln, .int .i32 1]) := Li hpk
 have WT1 := Li (want3_any H bm bi bf q q (q + 1) (w6.alloc (.cells #[.pointer (some ⟨bm, 0, none⟩), .int .i32 ln, .int .i32 1] 63)).drew M6.out)
 have KS : Hid (∀ W bi' bf', StK H bm (cnt + 1) [.int .i64 10, .int .i64 op, .string tx, .slice na nm.length nc, .slice sa 0 sc, .slice pa 0 pc, .slice ba 0 bc, .slice ea 0 ec] w W bi bf bi' bf' → W.cell? ⟨w.heap.size, 0, none⟩ = some (.pointer (some ⟨bm, 0, none⟩)) ∧ W.cell? ⟨w.heap.size + 1, 0, none⟩ = some (.int .i64 10) ∧ W.cell? ⟨w.heap.size + 1, 4, none⟩ = some (.slice sa 0 sc) ∧ W.cell? ⟨w.heap.size + 1 + 1 + 1, 10, none⟩ = some (.int .i64 0)) := Li (fun W bi' bf' h => ⟨h.hmb.cell 0 (by simp), h.hsb.cell 0 (by simp), h.hsb.cell 4 (by simp), h.hfb.cell 10 (by simp)⟩)
 clear hb6 hbp hpk K6' K5 M5
 go_upto_region 7 with fail
 refine wp_region_noPanic ?_
 refine wp_region_held_drew (S := fun W => W.cell? ⟨w.heap.size, 0, none⟩ = some (.pointer (some ⟨bm, 0, none⟩)) ∧ W.cell? ⟨w.heap.size + 1, 0, none⟩ = some (.int .i64 10) ∧ W.cell? ⟨w.heap.size + 1, 4, none⟩ = some (.slice sa 0 sc) ∧ W.cell? ⟨w.heap.size + 1 + 1 + 1, 10, none⟩ = some (.int .i64 0)) (by kernel_rfl) ?_ (fun hHeld => ?_)
 · (try dsimp only)
   with_reducible first | exact KS.out _ _ _ K6.out | exact KS.out _ _ _ K1.out | exact KS.out _ _ _ K2.out | fail
 refine tkA 0 ?_
 refine tkA 1 ?_
 refine tkA 2 ?_
 refine tkA 3 ?_
 refine tkA 4 ?_
 refine tkA 5 ?_
 refine tkA 6 ?_
 refine tkA 7 ?_
 refine tkA 8 ?_
 refine wpAnyH_ready (rs := [9]) (by kernel_rfl) (by simp) ?_
 refine AllReadyH.cons (o := _) (by simp only [List.getElem?_toArray, List.getElem?_cons_zero, List.getElem?_cons_succ]; rfl) (fun K hK => ?_) AllReadyH.nil
 go_simp
 go_at_call 36
 with_reducible refine WT1.out.mono ?_
 rintro e wt1 ⟨rfl, hs1, hm1⟩
 obtain ⟨k1, p1, wn⟩ := st_nxt K6.out P6.out M6.out hs1 hm1
 have K1 := Li k1
 have P1 := Li p1
 have M1 := Li hm1
 have WT2 := Li wn
 clear hs1 hm1 k1 p1 wn
 refine hK.out _ _ ?_ (fun hHeld => ?_)
 · (try dsimp only)
   with_reducible first | exact KS.out _ _ _ K6.out | exact KS.out _ _ _ K1.out | exact KS.out _ _ _ K2.out | fail
 clear hK K
 try simp only [Act.put, sA, s0, s1]
 refine tkA 10 ?_
 refine tkA 11 ?_
 refine tkA 12 ?_
 refine tkA 13 ?_
 refine tkA 14 ?_
 refine tkA 15 ?_
 refine tkA 16 ?_
 refine tkA 17 ?_
 refine tkA 18 ?_
 refine tkA 19 ?_
 refine tkA 20 ?_
 refine tkA 21 ?_
 refine tkU 22 ?_
 refine tkU 23 ?_
 refine tkU 24 ?_
 refine tkU 25 ?_
 refine tkU 26 ?_
 refine tkU 27 ?_
 refine tkU 28 ?_
 refine tkU 29 ?_
 refine tkU 30 ?_
 refine tkA 31 ?_
 refine wpAnyH_ready (rs := [32]) (by kernel_rfl) (by simp) ?_
 refine AllReadyH.cons (o := _) (by simp only [List.getElem?_toArray, List.getElem?_cons_zero, List.getElem?_cons_succ]; rfl) (fun K hK => ?_) AllReadyH.nil
 go_simp
 go_at_call 36
 with_reducible refine WT2.out.mono ?_
 rintro e wt2 ⟨rfl, hs2, hm2⟩
 obtain ⟨k2, p2, wn⟩ := st_nxt K1.out P1.out M1.out hs2 hm2
 have K2 := Li k2
 have P2 := Li p2
 have M2 := Li hm2
 clear hs2 hm2 k2 p2 wn
 refine hK.out _ _ ?_ (fun hHeld => ?_)
 · (try dsimp only)
   with_reducible first | exact KS.out _ _ _ K6.out | exact KS.out _ _ _ K1.out | exact KS.out _ _ _ K2.out | fail
 clear hK K
 try simp only [Act.put, sA, s0, s1]
 refine tkA 33 ?_
 refine tkA 34 ?_
 refine wpAnyH_done (by kernel_rfl) ?_ _
 refine NoPanic.normal ?_
 try simp only [Act.put, sA, s0, s1]
 have q0 := K2.out.hmb.cell 0 (by simp)
 have s0 := K2.out.hsb.cell 0 (by simp)
 have s1 := K2.out.hsb.cell 1 (by simp)
 have s2 := K2.out.hsb.cell 2 (by simp)
 have s3 := K2.out.hsb.cell 3 (by simp)
 have s4 := K2.out.hsb.cell 4 (by simp)
 have s5 := K2.out.hsb.cell 5 (by simp)
 have s6 := K2.out.hsb.cell 6 (by simp)
 have s7 := K2.out.hsb.cell 7 (by simp)
 have hst2 := K2.out.hs.size
 have HO2 : Hid (Old R B wt2) := Li (HO.out.below ((K2.out.hs.below (H := H) (by omega) (by omega) (by omega) (by omega)).mono hBH))
 clear KS WT1 K6 M6 P6
 have A0 : Hid (Acc H bm bi bf q pb (w.heap.size + 1) ln 42 [.int .i64 10, .int .i64 op, .string tx, .slice na nm.length nc, .slice sa 0 sc, .slice pa 0 pc, .slice ba 0 bc, .slice ea 0 ec] wt2 1 bi bf wt2) := Li ⟨P2.out, K2.out.hsb, Stp.refl _ _ _ _ _, M2.out.to (by omega) (by omega) (by omega), by omega, fr_stmt⟩
 obtain ⟨WB, hWB⟩ : ∃ WB, WB = (wt2.alloc (.cells #[.int .i8 52, .int .i8 53, .int .i8 65] 181)).drew := ⟨_, rfl⟩
 have hbB : Below wt2.heap.size wt2 WB := by rw [hWB]; exact ((Below.refl _ _).alloc (Nat.le_refl _) _).drew
 have A1 := Li (A0.out.keep (Stp.of_below hbB) (k := 0) (A0.out.hm.below hbB)).1
 have TB : Hid (Blk WB wt2.heap.size 181 [.int .i8 52, .int .i8 53, .int .i8 65]) := Li (by rw [hWB]; exact Blk.new wt2 _ _)
 have h8 : MPost H bm bi bf q (ctS (Tr.mk 10 op tx v nm [] [] [] [])) (nmS (Tr.mk 10 op tx v nm [] [] [] [])) wt2 (.returned (.iface 96 (.pointer (some ⟨WB.heap.size, 0, none⟩)))) (WB.alloc (.cells #[.pointer none, .int .i8 65, .pointer (some ⟨bm, 0, none⟩), .int .i32 ln, .int .i32 1] 183)) := A1.out.fin (L := [.pointer none, .int .i8 65, .pointer (some ⟨bm, 0, none⟩), .int .i32 ln, .int .i32 1]) (T := 96) (e := 183) (sl := []) (by simp [tbl]) .nil .nil (by rw [ctS_mk]; simp) (by rw [ctS_mk]; simp) (by rw [nmS_mk]; simp)
 obtain ⟨y9, r1, r2, r3, r4, r5, hfin⟩ := K2.out.close (M2.out.to (q := q + 1) (by omega) (by omega) (by omega)) h8 hc0 (by have := HCT.out; omega) (by omega)
 have FIN := Li hfin
 clear h8
 have KS : Hid (∀ W, Blk W (w.heap.size + 1) 42 [.int .i64 10, .int .i64 op, .string tx, .slice na nm.length nc, .slice sa 0 sc, .slice pa 0 pc, .slice ba 0 bc, .slice ea 0 ec] → Blk W wt2.heap.size 181 [.int .i8 52, .int .i8 53, .int .i8 65] → Blk W pb 63 [.pointer (some ⟨bm, 0, none⟩), .int .i32 ln, .int .i32 1] → W.cell? ⟨w.heap.size + 1, 0, none⟩ = some (.int .i64 10) ∧ W.cell? ⟨wt2.heap.size, 2, none⟩ = some (.int .i8 65) ∧ W.cell? ⟨pb, 0, none⟩ = some (.pointer (some ⟨bm, 0, none⟩)) ∧ W.cell? ⟨pb, 1, none⟩ = some (.int .i32 ln) ∧ W.cell? ⟨pb, 2, none⟩ = some (.int .i32 1)) := Li (fun W h1 h2 h3 => ⟨h1.cell 0 (by simp), h2.cell 2 (by simp), h3.cell 0 (by simp), h3.cell 1 (by simp), h3.cell 2 (by simp)⟩)
 have E1 := Li A1.out.he
 have P3 := Li A1.out.hp
 have E2 : Hid (Blk ((wt2.alloc (.cells #[.int .i8 52, .int .i8 53, .int .i8 65] 181)).alloc (.cells #[.pointer none, .int .i8 65, .pointer (some ⟨bm, 0, none⟩), .int .i32 ln, .int .i32 1] 183)).drew (w.heap.size + 1) 42 [.int .i64 10, .int .i64 op, .string tx, .slice na nm.length nc, .slice sa 0 sc, .slice pa 0 pc, .slice ba 0 bc, .slice ea 0 ec]) := Li (by have h0 := E1.out.alloc (.cells #[.pointer none, .int .i8 65, .pointer (some ⟨bm, 0, none⟩), .int .i32 ln, .int .i32 1] 183); rw [hWB] at h0; exact h0)
 have TB2 : Hid (Blk ((wt2.alloc (.cells #[.int .i8 52, .int .i8 53, .int .i8 65] 181)).alloc (.cells #[.pointer none, .int .i8 65, .pointer (some ⟨bm, 0, none⟩), .int .i32 ln, .int .i32 1] 183)).drew wt2.heap.size 181 [.int .i8 52, .int .i8 53, .int .i8 65]) := Li (by have h0 := TB.out.alloc (.cells #[.pointer none, .int .i8 65, .pointer (some ⟨bm, 0, none⟩), .int .i32 ln, .int .i32 1] 183); rw [hWB] at h0; exact h0)
 have P4 : Hid (Blk ((wt2.alloc (.cells #[.int .i8 52, .int .i8 53, .int .i8 65] 181)).alloc (.cells #[.pointer none, .int .i8 65, .pointer (some ⟨bm, 0, none⟩), .int .i32 ln, .int .i32 1] 183)).drew pb 63 [.pointer (some ⟨bm, 0, none⟩), .int .i32 ln, .int .i32 1]) := Li (by have h0 := P3.out.alloc (.cells #[.pointer none, .int .i8 65, .pointer (some ⟨bm, 0, none⟩), .int .i32 ln, .int .i32 1] 183); rw [hWB] at h0; exact h0)
 have hwk : IntKind.i64.wrap ((10 : Int) - 8) = 2 := by decide
 have hwk2 : IntKind.i64.wrap 2 = 2 := by decide
 clear hbB A0 A1
 subst hWB
 have FIN : Hid (MPost H bm bi bf q (ctS (Tr.mk 10 op tx v nm [] [] [] [])) (nmS (Tr.mk 10 op tx v nm [] [] [] [])) w (.returned (.iface 96 (.pointer (some ⟨wt2.heap.size + 1, 0, none⟩)))) (((wt2.alloc (.cells #[.int .i8 52, .int .i8 53, .int .i8 65] 181)).alloc (.cells #[.pointer none, .int .i8 65, .pointer (some ⟨bm, 0, none⟩), .int .i32 ln, .int .i32 1] 183)).drew.setCell ⟨bm, 2, none⟩ (.int .i32 (cnt + 1)))) := Li (by have h0 := FIN.out; simp at h0; exact h0)
 go_upto_region 22 with fail
 go_region_held3 (fun W => W.cell? ⟨w.heap.size + 1, 0, none⟩ = some (.int .i64 10) ∧ W.cell? ⟨wt2.heap.size, 2, none⟩ = some (.int .i8 65) ∧ W.cell? ⟨pb, 0, none⟩ = some (.pointer (some ⟨bm, 0, none⟩)) ∧ W.cell? ⟨pb, 1, none⟩ = some (.int .i32 ln) ∧ W.cell? ⟨pb, 2, none⟩ = some (.int .i32 1)) (with_reducible first | exact KS.out _ E1.out TB.out P3.out | exact KS.out _ E2.out TB2.out P4.out | fail) (fail)
 go_wp2_with fail
 refine leaves_cons (f := 34) (args := #[.pointer (some ⟨w.heap.size + 1 + 1, 0, none⟩), .pointer (some ⟨w.heap.size, 0, none⟩)]) (by simp) (by kernel_rfl) ?_
 refine (line_deferred .returning _ bm _ _ (cnt + 1) y9 r1 r2 r3 r4 r5).mono ?_
 rintro e u' w'' ⟨rfl, rfl, rfl⟩
 refine ⟨_, ?_, FIN.out⟩
 simp [results, Tryz.results28, go_sem]
end Go.Proofs.YtoojgjhfmmohbaaGreat
