/- maker.expr: comprehensions and lambda (printed by genwkex2.py). -/
import Derived.Test.YtoojgjhfmmohbaaGreatMExa
namespace Go.Proofs.YtoojgjhfmmohbaaGreat
open Go.RowKit Dig
set_option linter.unusedVariables false
set_option linter.unusedSimpArgs false
set_option maxRecDepth 100000
theorem fr_expr : Fr 75 := by unfold Fr; decide
theorem fr_comp : Fr 142 := by unfold Fr; decide
theorem fr_lam : Fr 169 := by unfold Fr; decide
theorem Bld.start1 {H bm bi bf q pb eb : Nat} {ln : Int} {e et : TypeId} {L EE : List Value} {i : Nat} {w W w4 : World} {n : Nat} {v : Value} {ns : List ByteArray} {c bi4 bf4 : Nat} (t1 : Fr e) (t2 : Fr et) (hW : Stp w.heap.size w W bm bi bf bi bf) (hs : Stp W.heap.size W w4 bm bi bf bi4 bf4) (hm : MK w4 H bm bi4 bf4 (q + n)) (hn : Nd (Gx w4 W.heap.size [bi4, bf4]) v ns c) (hc : c ≤ 3 * n) (hl : bm < w.heap.size)
   (hp : Blk w4 pb 63 [.pointer (some ⟨bm, 0, none⟩), .int .i32 ln, .int .i32 1]) (he : Blk w4 eb et EE) (hi : L[i]? = some v) : Bld H bm bi bf q w4.heap.size pb eb ln e et L EE [(i, .x)] w n n [v] ns c bi4 bf4 (w4.alloc (.cells L.toArray e)) := by
 have hz := hW.size
 have hz4 := hs.size
 have hbx : Below w4.heap.size w4 (w4.alloc (.cells L.toArray e)) := (Below.refl _ _).alloc (Nat.le_refl _) _
 refine ⟨Blk.new w4 _ _, hp.alloc _, he.alloc _, (hW.trans (hs.mono hz)).trans (Stp.of_below (hbx.mono (by omega))), hm.below hbx, .x i v _ _ hi .nil, Nds.one (hn.mono (Gx.le hz fun b h1 h2 h3 => ?_)), by omega, by omega, hl, t1, t2, by have := hp.lt; omega, by have := he.lt; omega⟩
 exact ⟨by simp at h3 ⊢; omega, hbx.block b h2⟩
theorem Bld.start0 {H bm bi bf q pb eb : Nat} {ln : Int} {e et : TypeId} {L EE : List Value} {w W : World} (t1 : Fr e) (t2 : Fr et) (hW : Stp w.heap.size w W bm bi bf bi bf) (hm : MK W H bm bi bf q) (hl : bm < w.heap.size)
   (hp : Blk W pb 63 [.pointer (some ⟨bm, 0, none⟩), .int .i32 ln, .int .i32 1]) (he : Blk W eb et EE) : Bld H bm bi bf q W.heap.size pb eb ln e et L EE [] w 0 0 [] [] 0 bi bf (W.alloc (.cells L.toArray e)) := by
 have hz := hW.size
 have hbx : Below W.heap.size W (W.alloc (.cells L.toArray e)) := (Below.refl _ _).alloc (Nat.le_refl _) _
 exact ⟨Blk.new W _ _, hp.alloc _, he.alloc _, hW.trans (Stp.of_below (hbx.mono (by omega))), hm.below hbx, .nil, .nil, by omega, by omega, hl, t1, t2, by have := hp.lt; omega, by have := he.lt; omega⟩
theorem and_assoc2 {a0 a1 a2 a3 a4 a5 a6 a7 a8 a9 a10 b : Prop} (h : a0 ∧ a1 ∧ a2 ∧ a3 ∧ a4 ∧ a5 ∧ a6 ∧ a7 ∧ a8 ∧ a9 ∧ a10) (k : b) : a0 ∧ a1 ∧ a2 ∧ a3 ∧ a4 ∧ a5 ∧ a6 ∧ a7 ∧ a8 ∧ a9 ∧ a10 ∧ b := by
 obtain ⟨h0, h1, h2, h3, h4, h5, h6, h7, h8, h9, h10⟩ := h
 exact ⟨h0, h1, h2, h3, h4, h5, h6, h7, h8, h9, h10, k⟩
set_option maxHeartbeats 6400000 in
theorem mex_k19 {R : Nat → Nat → Option Value} {B H bm : Nat} (op : Int) (tx : ByteArray) (v : VV) (nm : List ByteArray) (x k : Tr) (l : List Tr) (c d : List Tr) (ma ka sa pa : Option Addr) (mc kc sc pc : Nat) (w : World) (bi bf q : Nat) (IH : ∀ s, SizeOf.sizeOf s < SizeOf.sizeOf (Tr.mk 19 op tx v nm (x :: k :: l) [] c d) → MEx R B H bm s) (hvr : VaR R v [.int .i64 v.kd, .bool v.nb, .slice ma v.ms.length mc, .int .u64 v.ub, .string v.tx, .slice ka v.kn kc]) (hxa : ExL R (x :: k :: l) (.slice sa (l.length + 2) sc)) (hpa : PaL R [] (.slice pa 0 pc)) (vt : ExV R (Tr.mk 19 op tx v nm (x :: k :: l) [] c d) [.int .i64 19, .int .i64 op, .string tx, .int .i64 v.kd, .bool v.nb, .slice ma v.ms.length mc, .int .u64 v.ub, .string v.tx, .slice ka v.kn kc, .slice sa (l.length + 2) sc, .slice pa 0 pc]) (ho : Old R B w) (hBH : B ≤ H) (hm : MK w H bm bi bf q) (hq : q + ctE (Tr.mk 19 op tx v nm (x :: k :: l) [] c d) ≤ 8192) (ok : OkE (Tr.mk 19 op tx v nm (x :: k :: l) [] c d)) :
   Calls Tryz.prog 45 #[.pointer (some ⟨bm, 0, none⟩), .agg #[.int .i64 19, .int .i64 op, .string tx, .int .i64 v.kd, .bool v.nb, .slice ma v.ms.length mc, .int .u64 v.ub, .string v.tx, .slice ka v.kn kc, .slice sa (l.length + 2) sc, .slice pa 0 pc]] w (MPost H bm bi bf q (ctE (Tr.mk 19 op tx v nm (x :: k :: l) [] c d)) (nmE (Tr.mk 19 op tx v nm (x :: k :: l) [] c d)) w) := by
 obtain ⟨W0, hW0⟩ : ∃ W0, W0 = w.alloc (.cells #[.int .i64 19, .int .i64 op, .string tx, .int .i64 v.kd, .bool v.nb, .slice ma v.ms.length mc, .int .u64 v.ub, .string v.tx, .slice ka v.kn kc, .slice sa (l.length + 2) sc, .slice pa 0 pc] 75) := ⟨_, rfl⟩
 have hb0 : Below w.heap.size w W0 := by rw [hW0]; exact (Below.refl _ _).alloc (Nat.le_refl _) _
 have hl := hm.lts
 have hO0 : Old R B W0 := ho.below (hb0.mono (by omega))
 have MANY := Li (many_any vt ok hO0 (by have := hb0.size; omega))
 have HB0 := Li hb0
 have HM := Li hm
 have HO := Li ho
 have HV := Li vt
 have HIH := Li IH
 have HOK := Li ok
 have HQ := Li hq
 have HVR := Li hvr
 have HXA := Li hxa
 have HPA := Li hpa
 clear hb0 hO0 hm ho vt IH ok hq hvr hxa hpa
 subst hW0
 go_enter Tryz.func45, Tryz.ntmps45
 go_wp2_with fail
 refine MANY.out.mono ?_
 rintro e w1 ⟨rfl, hb1⟩
 clear MANY
 have WT := Li (want_any H bm bi bf q w1 ((HM.out.below HB0.out).below hb1))
 go_wp2_with fail
 refine WT.out.mono ?_
 rintro e w2 ⟨rfl, hs2, hm2⟩
 clear WT
 have HPOS := Li (pos_any H bm bi bf q w2 hm2)
 go_wp2_with fail
 refine HPOS.out.mono ?_
 rintro e w3 ⟨ln, rfl, hb3⟩
 clear HPOS
 obtain ⟨pb, hpb⟩ : ∃ pb, w3.heap.size = pb := ⟨_, rfl⟩
 obtain ⟨hst, hmp, he, hop, hz3⟩ := mex_head (L := [.int .i64 19, .int .i64 op, .string tx, .int .i64 v.kd, .bool v.nb, .slice ma v.ms.length mc, .int .u64 v.ub, .string v.tx, .slice ka v.kn kc, .slice sa (l.length + 2) sc, .slice pa 0 pc]) (by decide) (by decide) (by decide) HM.out HO.out hBH hb1 hs2 hm2 hb3 (.cells #[.pointer (some ⟨bm, 0, none⟩), .int .i32 ln, .int .i32 1] 63)
 have hpk : Blk (w3.alloc (.cells #[.pointer (some ⟨bm, 0, none⟩), .int .i32 ln, .int .i32 1] 63)) pb 63 [.pointer (some ⟨bm, 0, none⟩), .int .i32 ln, .int .i32 1] := by rw [← hpb]; exact Blk.new w3 _ _
 have d0 := he.cell 0 (by simp)
 have d2 := he.cell 2 (by simp)
 have HST := Li hst
 have HMP := Li hmp
 have HE := Li he
 have HOP := Li hop
 have HPK := Li hpk
 clear hb1 hs2 hm2 hb3 hst hmp he hop hpk
 obtain ⟨hx, hcl⟩ : OkE x ∧ (∀ t ∈ k :: l, OkC t) := by
   cases HOK.out with
   | many _ _ _ _ _ _ _ _ hk => omega
   | two _ _ _ _ _ _ _ _ _ hk => omega
   | listOf _ _ _ _ _ _ _ _ _ hx hk h => exact ⟨hx, h⟩
 obtain ⟨rb, ro, rfl, hn3, hc3, hm3, hx0⟩ := ExL.at0 HXA.out
 obtain ⟨kd1, op1, tx1, v1, nm1, ca1, cb1, cc1, cd1, ma1, mc1, ka1, kc1, sa1, sc1, pa1, pc1, et1, hxv1, hrd1⟩ := hx0.rd
 unfold maxLen at hm3
 clear hn3
 simp only [List.length_cons] at hc3 hm3
 have h9 : Hid (Blk (w3.alloc (.cells #[.pointer (some ⟨bm, 0, none⟩), .int .i32 ln, .int .i32 1] 63)).drew w.heap.size 75 [.int .i64 19, .int .i64 op, .string tx, .int .i64 v.kd, .bool v.nb, .slice ma v.ms.length mc, .int .u64 v.ub, .string v.tx, .slice ka v.kn kc, .slice (some ⟨rb, ro, none⟩) (l.length + 2) sc, .slice pa 0 pc]) := HE
 have HPD : Hid (Blk (w3.alloc (.cells #[.pointer (some ⟨bm, 0, none⟩), .int .i32 ln, .int .i32 1] 63)).drew pb 63 [.pointer (some ⟨bm, 0, none⟩), .int .i32 ln, .int .i32 1]) := HPK
 have HOD : Hid (Old R B (w3.alloc (.cells #[.pointer (some ⟨bm, 0, none⟩), .int .i32 ln, .int .i32 1] 63)).drew) := HOP
 have hml := HM.out.lts
 have hzs := HST.out.size
 have PN := Li (HMP.out.ne HPK.out (by decide) (by decide) (by decide))
 have EN := Li (HMP.out.ne HE.out (by decide) (by decide) (by decide))
 have hle : ctEs (k :: l) + (ctE x) + 1 ≤ ctE (Tr.mk 19 op tx v nm (x :: k :: l) [] c d) := by rw [ctE_mk]; simp; omega
 have hlk := len_le_ctEs (fun t ht => (hcl t ht).ct)
 have HLK := Li hlk
 have HLE := Li hle
 have MX := Li (HIH.out x (by simp; omega) _ (w3.alloc (.cells #[.pointer (some ⟨bm, 0, none⟩), .int .i32 ln, .int .i32 1] 63)).drew bi bf q hxv1 HOP.out hBH HMP.out (by have := HQ.out; omega) hx)
 have KS : Hid (∀ W, Blk W pb 63 [.pointer (some ⟨bm, 0, none⟩), .int .i32 ln, .int .i32 1] → Blk W w.heap.size 75 [.int .i64 19, .int .i64 op, .string tx, .int .i64 v.kd, .bool v.nb, .slice ma v.ms.length mc, .int .u64 v.ub, .string v.tx, .slice ka v.kn kc, .slice (some ⟨rb, ro, none⟩) (l.length + 2) sc, .slice pa 0 pc] → Old R B W → W.cell? ⟨w.heap.size, 9, none⟩ = some (.slice (some ⟨rb, ro, none⟩) (l.length + 2) sc) ∧ W.cell? ⟨pb, 0, none⟩ = some (.pointer (some ⟨bm, 0, none⟩)) ∧ W.cell? ⟨pb, 1, none⟩ = some (.int .i32 ln) ∧ W.cell? ⟨pb, 2, none⟩ = some (.int .i32 1) ∧ W.cell? ⟨rb, ro, none⟩ = some (.int .i64 kd1) ∧ W.cell? ⟨rb, ro + 1, none⟩ = some (.int .i64 op1) ∧ W.cell? ⟨rb, ro + 2, none⟩ = some (.string tx1) ∧ W.cell? ⟨rb, ro + 3, none⟩ = some (.int .i64 v1.kd) ∧ W.cell? ⟨rb, ro + 4, none⟩ = some (.bool v1.nb) ∧ W.cell? ⟨rb, ro + 5, none⟩ = some (.slice ma1 v1.ms.length mc1) ∧ W.cell? ⟨rb, ro + 6, none⟩ = some (.int .u64 v1.ub) ∧ W.cell? ⟨rb, ro + 7, none⟩ = some (.string v1.tx) ∧ W.cell? ⟨rb, ro + 8, none⟩ = some (.slice ka1 v1.kn kc1) ∧ W.cell? ⟨rb, ro + 9, none⟩ = some (.slice sa1 ca1.length sc1) ∧ W.cell? ⟨rb, ro + 10, none⟩ = some (.slice pa1 cb1.length pc1)) := Li (fun W h1 h2 h3 => ⟨h2.cell 9 (by simp), h1.cell 0 (by simp), h1.cell 1 (by simp), h1.cell 2 (by simp), hrd1 B W h3⟩)
 have STEPD : Hid (∀ (w4 : World) (Tx bx cx bi4 bf4 : Nat), Stp (w3.alloc (.cells #[.pointer (some ⟨bm, 0, none⟩), .int .i32 ln, .int .i32 1] 63)).drew.heap.size (w3.alloc (.cells #[.pointer (some ⟨bm, 0, none⟩), .int .i32 ln, .int .i32 1] 63)).drew w4 bm bi bf bi4 bf4 → MK w4 H bm bi4 bf4 (q + (ctE x)) → Nd (Gx w4 (w3.alloc (.cells #[.pointer (some ⟨bm, 0, none⟩), .int .i32 ln, .int .i32 1] 63)).drew.heap.size [bi4, bf4]) (.iface Tx (.pointer (some ⟨bx, 0, none⟩))) (nmE x) cx → cx + 1 ≤ 3 * (ctE x) →
     Blk w4 pb 63 [.pointer (some ⟨bm, 0, none⟩), .int .i32 ln, .int .i32 1] ∧ Blk w4 w.heap.size 75 [.int .i64 19, .int .i64 op, .string tx, .int .i64 v.kd, .bool v.nb, .slice ma v.ms.length mc, .int .u64 v.ub, .string v.tx, .slice ka v.kn kc, .slice (some ⟨rb, ro, none⟩) (l.length + 2) sc, .slice pa 0 pc] ∧ Old R B w4 ∧ Bld H bm bi bf q w4.heap.size pb w.heap.size ln 142 75 [.pointer none, .bool false, .pointer (some ⟨bm, 0, none⟩), .int .i32 ln, .int .i32 1, (.iface Tx (.pointer (some ⟨bx, 0, none⟩))), .slice none 0 0, .pointer (some ⟨bm, 0, none⟩), .int .i32 ln, .int .i32 1] [.int .i64 19, .int .i64 op, .string tx, .int .i64 v.kd, .bool v.nb, .slice ma v.ms.length mc, .int .u64 v.ub, .string v.tx, .slice ka v.kn kc, .slice (some ⟨rb, ro, none⟩) (l.length + 2) sc, .slice pa 0 pc] [(5, .x)] w (ctE x) (ctE x) [(.iface Tx (.pointer (some ⟨bx, 0, none⟩)))] (nmE x) cx bi4 bf4 (w4.alloc (.cells #[.pointer none, .bool false, .pointer (some ⟨bm, 0, none⟩), .int .i32 ln, .int .i32 1, (.iface Tx (.pointer (some ⟨bx, 0, none⟩))), .slice none 0 0, .pointer (some ⟨bm, 0, none⟩), .int .i32 ln, .int .i32 1] 142))) := Li (fun w4 Tx bx cx bi4 bf4 hs4 hm4 hn4 hcx => by
   have hp4 := (hs4.blk HPD.out HPD.out.lt PN.out.1 PN.out.2.1 PN.out.2.2).1
   have he4 := (hs4.blk h9.out h9.out.lt EN.out.1 EN.out.2.1 EN.out.2.2).1
   have hsd : (w3.alloc (.cells #[.pointer (some ⟨bm, 0, none⟩), .int .i32 ln, .int .i32 1] 63)).drew.heap.size = (w3.alloc (.cells #[.pointer (some ⟨bm, 0, none⟩), .int .i32 ln, .int .i32 1] 63)).heap.size := rfl
   refine ⟨hp4, he4, (show Old R B (w3.alloc (.cells #[.pointer (some ⟨bm, 0, none⟩), .int .i32 ln, .int .i32 1] 63)).drew from HOP.out).below ((hs4.below (H := H) (by omega) (by omega) (by omega) (by omega)).mono hBH), ?_⟩
   exact Bld.start1 (L := [.pointer none, .bool false, .pointer (some ⟨bm, 0, none⟩), .int .i32 ln, .int .i32 1, (.iface Tx (.pointer (some ⟨bx, 0, none⟩))), .slice none 0 0, .pointer (some ⟨bm, 0, none⟩), .int .i32 ln, .int .i32 1]) (W := (w3.alloc (.cells #[.pointer (some ⟨bm, 0, none⟩), .int .i32 ln, .int .i32 1] 63)).drew) fr_comp fr_expr HST.out.drew hs4 hm4 hn4 (by omega) (by omega) hp4 he4 rfl)
 have i1 : (1 : Int) < ((l.length + 2 : Nat) : Int) := by omega
 have i1' : (1 : Int) < (l.length : Int) + 2 := by omega
 have i2 : ((l.length + 2 : Nat) : Int) ≤ (sc : Int) := by omega
 have i2' : (l.length : Int) + 2 ≤ (sc : Int) := by omega
 have i3 : (2 : Int) ≤ (sc : Int) := by omega
 have i5 : (1 : Int) ≤ (l.length : Int) + 2 := by omega
 have i0 : (0 : Int) < (l.length : Int) + 2 := by omega
 have HPOS' := hx
 clear hle hlk hx0 hrd1
 go_upto_region 14 with fail
 go_region_held3 (fun W => W.cell? ⟨w.heap.size, 9, none⟩ = some (.slice (some ⟨rb, ro, none⟩) (l.length + 2) sc) ∧ W.cell? ⟨pb, 0, none⟩ = some (.pointer (some ⟨bm, 0, none⟩)) ∧ W.cell? ⟨pb, 1, none⟩ = some (.int .i32 ln) ∧ W.cell? ⟨pb, 2, none⟩ = some (.int .i32 1) ∧ W.cell? ⟨rb, ro, none⟩ = some (.int .i64 kd1) ∧ W.cell? ⟨rb, ro + 1, none⟩ = some (.int .i64 op1) ∧ W.cell? ⟨rb, ro + 2, none⟩ = some (.string tx1) ∧ W.cell? ⟨rb, ro + 3, none⟩ = some (.int .i64 v1.kd) ∧ W.cell? ⟨rb, ro + 4, none⟩ = some (.bool v1.nb) ∧ W.cell? ⟨rb, ro + 5, none⟩ = some (.slice ma1 v1.ms.length mc1) ∧ W.cell? ⟨rb, ro + 6, none⟩ = some (.int .u64 v1.ub) ∧ W.cell? ⟨rb, ro + 7, none⟩ = some (.string v1.tx) ∧ W.cell? ⟨rb, ro + 8, none⟩ = some (.slice ka1 v1.kn kc1) ∧ W.cell? ⟨rb, ro + 9, none⟩ = some (.slice sa1 ca1.length sc1) ∧ W.cell? ⟨rb, ro + 10, none⟩ = some (.slice pa1 cb1.length pc1)) (with_reducible first | exact KS.out _ HPD.out h9.out HOD.out | exact KS.out _ HP4.out HE4.out HO4.out | exact KS.out _ (HP4.out.alloc _) (HE4.out.alloc _) (HO4.out.alc _) | fail)
   ((first
     | (go_at_call 45; (with_reducible refine MX.out.mono ?_); rintro e w4 ⟨Tx, bx, cx, bi4, bf4, rfl, hs4, hm4, hn4, hcx⟩; obtain ⟨hp4, he4, ho4, bld⟩ := STEPD.out w4 Tx bx cx bi4 bf4 hs4 hm4 hn4 hcx; have HP4 := Li hp4; have HE4 := Li he4; have HO4 := Li ho4; have BL := Li bld; clear hs4 hm4 hn4 hcx hp4 he4 ho4 bld)
     | fail))
 have f9 := BL.out.he.cell 9 (by simp)
 have i4 : ¬ sc = 1 := by omega
 have CLS := Li (mclauses_of (l := k :: l) (H := H) (bm := bm) (fun p hp t ht => HIH.out t (by have h1 := mem_a_lt ht; have h2 := List.sizeOf_lt_of_mem hp; simp at h1 h2 ⊢; omega)) hcl (some ⟨rb, ro + 11, none⟩) (sc - 1) (w4.alloc (.cells #[.pointer none, .bool false, .pointer (some ⟨bm, 0, none⟩), .int .i32 ln, .int .i32 1, (.iface Tx (.pointer (some ⟨bx, 0, none⟩))), .slice none 0 0, .pointer (some ⟨bm, 0, none⟩), .int .i32 ln, .int .i32 1] 142)) bi4 bf4 (q + (ctE x)) (ExL.drop1 HXA.out (by omega)) (HO4.out.alc _) hBH BL.out.hm (by have := HQ.out; have := HLE.out; omega) (by have := HQ.out; have := HLE.out; have := HLK.out; omega))
 clear STEPD KS MX HP4 HE4 HO4
 go_wp2_with fail
 refine CLS.out.mono ?_
 rintro e w5 h5
 obtain ⟨a5, cc5, ch5, cn5, bi5, bf5, rfl, hx5, hb5⟩ := BL.out.putS h5 (j := 6) (by simp) (by simp)
 have c6 := hx5.cell 6 (by simp)
 have f6 := hx5.free 6
 have l6 := hx5.lt
 have FIN := Li (hb5.fin (T := 140) (N := ctE (Tr.mk 19 op tx v nm (x :: k :: l) [] c d)) (NS := nmE (Tr.mk 19 op tx v nm (x :: k :: l) [] c d)) (by simp [tbl]) (by rw [ctE_mk]; simp <;> omega) (by rw [ctE_mk]; simp <;> omega) (by rw [nmE_mk]; simp))
 clear h5 hx5 hb5 CLS BL
 go_wp2_with fail
 go_ret
 exact FIN.out
set_option maxHeartbeats 6400000 in
theorem mex_k20 {R : Nat → Nat → Option Value} {B H bm : Nat} (op : Int) (tx : ByteArray) (v : VV) (nm : List ByteArray) (x y k : Tr) (l : List Tr) (c d : List Tr) (ma ka sa pa : Option Addr) (mc kc sc pc : Nat) (w : World) (bi bf q : Nat) (IH : ∀ s, SizeOf.sizeOf s < SizeOf.sizeOf (Tr.mk 20 op tx v nm (x :: y :: k :: l) [] c d) → MEx R B H bm s) (hvr : VaR R v [.int .i64 v.kd, .bool v.nb, .slice ma v.ms.length mc, .int .u64 v.ub, .string v.tx, .slice ka v.kn kc]) (hxa : ExL R (x :: y :: k :: l) (.slice sa (l.length + 3) sc)) (hpa : PaL R [] (.slice pa 0 pc)) (vt : ExV R (Tr.mk 20 op tx v nm (x :: y :: k :: l) [] c d) [.int .i64 20, .int .i64 op, .string tx, .int .i64 v.kd, .bool v.nb, .slice ma v.ms.length mc, .int .u64 v.ub, .string v.tx, .slice ka v.kn kc, .slice sa (l.length + 3) sc, .slice pa 0 pc]) (ho : Old R B w) (hBH : B ≤ H) (hm : MK w H bm bi bf q) (hq : q + ctE (Tr.mk 20 op tx v nm (x :: y :: k :: l) [] c d) ≤ 8192) (ok : OkE (Tr.mk 20 op tx v nm (x :: y :: k :: l) [] c d)) :
   Calls Tryz.prog 45 #[.pointer (some ⟨bm, 0, none⟩), .agg #[.int .i64 20, .int .i64 op, .string tx, .int .i64 v.kd, .bool v.nb, .slice ma v.ms.length mc, .int .u64 v.ub, .string v.tx, .slice ka v.kn kc, .slice sa (l.length + 3) sc, .slice pa 0 pc]] w (MPost H bm bi bf q (ctE (Tr.mk 20 op tx v nm (x :: y :: k :: l) [] c d)) (nmE (Tr.mk 20 op tx v nm (x :: y :: k :: l) [] c d)) w) := by
 obtain ⟨W0, hW0⟩ : ∃ W0, W0 = w.alloc (.cells #[.int .i64 20, .int .i64 op, .string tx, .int .i64 v.kd, .bool v.nb, .slice ma v.ms.length mc, .int .u64 v.ub, .string v.tx, .slice ka v.kn kc, .slice sa (l.length + 3) sc, .slice pa 0 pc] 75) := ⟨_, rfl⟩
 have hb0 : Below w.heap.size w W0 := by rw [hW0]; exact (Below.refl _ _).alloc (Nat.le_refl _) _
 have hl := hm.lts
 have hO0 : Old R B W0 := ho.below (hb0.mono (by omega))
 have MANY := Li (many_any vt ok hO0 (by have := hb0.size; omega))
 have HB0 := Li hb0
 have HM := Li hm
 have HO := Li ho
 have HV := Li vt
 have HIH := Li IH
 have HOK := Li ok
 have HQ := Li hq
 have HVR := Li hvr
 have HXA := Li hxa
 have HPA := Li hpa
 clear hb0 hO0 hm ho vt IH ok hq hvr hxa hpa
 subst hW0
 go_enter Tryz.func45, Tryz.ntmps45
 go_wp2_with fail
 refine MANY.out.mono ?_
 rintro e w1 ⟨rfl, hb1⟩
 clear MANY
 have WT := Li (want_any H bm bi bf q w1 ((HM.out.below HB0.out).below hb1))
 go_wp2_with fail
 refine WT.out.mono ?_
 rintro e w2 ⟨rfl, hs2, hm2⟩
 clear WT
 have HPOS := Li (pos_any H bm bi bf q w2 hm2)
 go_wp2_with fail
 refine HPOS.out.mono ?_
 rintro e w3 ⟨ln, rfl, hb3⟩
 clear HPOS
 obtain ⟨pb, hpb⟩ : ∃ pb, w3.heap.size = pb := ⟨_, rfl⟩
 obtain ⟨hst, hmp, he, hop, hz3⟩ := mex_head (L := [.int .i64 20, .int .i64 op, .string tx, .int .i64 v.kd, .bool v.nb, .slice ma v.ms.length mc, .int .u64 v.ub, .string v.tx, .slice ka v.kn kc, .slice sa (l.length + 3) sc, .slice pa 0 pc]) (by decide) (by decide) (by decide) HM.out HO.out hBH hb1 hs2 hm2 hb3 (.cells #[.pointer (some ⟨bm, 0, none⟩), .int .i32 ln, .int .i32 1] 63)
 have hpk : Blk (w3.alloc (.cells #[.pointer (some ⟨bm, 0, none⟩), .int .i32 ln, .int .i32 1] 63)) pb 63 [.pointer (some ⟨bm, 0, none⟩), .int .i32 ln, .int .i32 1] := by rw [← hpb]; exact Blk.new w3 _ _
 have d0 := he.cell 0 (by simp)
 have d2 := he.cell 2 (by simp)
 have HST := Li hst
 have HMP := Li hmp
 have HE := Li he
 have HOP := Li hop
 have HPK := Li hpk
 clear hb1 hs2 hm2 hb3 hst hmp he hop hpk
 obtain ⟨hx, hy, hcl⟩ : OkE x ∧ OkE y ∧ (∀ t ∈ k :: l, OkC t) := by
   cases HOK.out with
   | many _ _ _ _ _ _ _ _ hk => omega
   | dictOf _ _ _ _ _ _ _ _ _ _ hx hy hk h => exact ⟨hx, hy, h⟩
 obtain ⟨rb, ro, rfl, hn3, hc3, hm3, hx0⟩ := ExL.at0 HXA.out
 obtain ⟨kd1, op1, tx1, v1, nm1, ca1, cb1, cc1, cd1, ma1, mc1, ka1, kc1, sa1, sc1, pa1, pc1, et1, hxv1, hrd1⟩ := hx0.rd
 obtain ⟨kd2, op2, tx2, v2, nm2, ca2, cb2, cc2, cd2, ma2, mc2, ka2, kc2, sa2, sc2, pa2, pc2, et2, hxv2, hrd2⟩ := (HXA.out.atk (k := 1) (t := y) rfl).rd
 unfold maxLen at hm3
 clear hn3
 simp only [List.length_cons] at hc3 hm3
 have h9 : Hid (Blk (w3.alloc (.cells #[.pointer (some ⟨bm, 0, none⟩), .int .i32 ln, .int .i32 1] 63)).drew w.heap.size 75 [.int .i64 20, .int .i64 op, .string tx, .int .i64 v.kd, .bool v.nb, .slice ma v.ms.length mc, .int .u64 v.ub, .string v.tx, .slice ka v.kn kc, .slice (some ⟨rb, ro, none⟩) (l.length + 3) sc, .slice pa 0 pc]) := HE
 have HPD : Hid (Blk (w3.alloc (.cells #[.pointer (some ⟨bm, 0, none⟩), .int .i32 ln, .int .i32 1] 63)).drew pb 63 [.pointer (some ⟨bm, 0, none⟩), .int .i32 ln, .int .i32 1]) := HPK
 have HOD : Hid (Old R B (w3.alloc (.cells #[.pointer (some ⟨bm, 0, none⟩), .int .i32 ln, .int .i32 1] 63)).drew) := HOP
 have hml := HM.out.lts
 have hzs := HST.out.size
 have PN := Li (HMP.out.ne HPK.out (by decide) (by decide) (by decide))
 have EN := Li (HMP.out.ne HE.out (by decide) (by decide) (by decide))
 have hle : ctEs (k :: l) + (ctE x + ctE y) + 1 ≤ ctE (Tr.mk 20 op tx v nm (x :: y :: k :: l) [] c d) := by rw [ctE_mk]; simp; omega
 have hlk := len_le_ctEs (fun t ht => (hcl t ht).ct)
 have HLK := Li hlk
 have HLE := Li hle
 have MX := Li (entry_any (HIH.out x (by simp; omega)) (HIH.out y (by simp; omega)) hx hy _ _ (w3.alloc (.cells #[.pointer (some ⟨bm, 0, none⟩), .int .i32 ln, .int .i32 1] 63)).drew bi bf q hxv1 hxv2 HOP.out hBH HMP.out (by have := HQ.out; omega))
 have KS : Hid (∀ W, Blk W pb 63 [.pointer (some ⟨bm, 0, none⟩), .int .i32 ln, .int .i32 1] → Blk W w.heap.size 75 [.int .i64 20, .int .i64 op, .string tx, .int .i64 v.kd, .bool v.nb, .slice ma v.ms.length mc, .int .u64 v.ub, .string v.tx, .slice ka v.kn kc, .slice (some ⟨rb, ro, none⟩) (l.length + 3) sc, .slice pa 0 pc] → Old R B W → W.cell? ⟨w.heap.size, 9, none⟩ = some (.slice (some ⟨rb, ro, none⟩) (l.length + 3) sc) ∧ W.cell? ⟨pb, 0, none⟩ = some (.pointer (some ⟨bm, 0, none⟩)) ∧ W.cell? ⟨pb, 1, none⟩ = some (.int .i32 ln) ∧ W.cell? ⟨pb, 2, none⟩ = some (.int .i32 1) ∧ W.cell? ⟨rb, ro, none⟩ = some (.int .i64 kd1) ∧ W.cell? ⟨rb, ro + 1, none⟩ = some (.int .i64 op1) ∧ W.cell? ⟨rb, ro + 2, none⟩ = some (.string tx1) ∧ W.cell? ⟨rb, ro + 3, none⟩ = some (.int .i64 v1.kd) ∧ W.cell? ⟨rb, ro + 4, none⟩ = some (.bool v1.nb) ∧ W.cell? ⟨rb, ro + 5, none⟩ = some (.slice ma1 v1.ms.length mc1) ∧ W.cell? ⟨rb, ro + 6, none⟩ = some (.int .u64 v1.ub) ∧ W.cell? ⟨rb, ro + 7, none⟩ = some (.string v1.tx) ∧ W.cell? ⟨rb, ro + 8, none⟩ = some (.slice ka1 v1.kn kc1) ∧ W.cell? ⟨rb, ro + 9, none⟩ = some (.slice sa1 ca1.length sc1) ∧ W.cell? ⟨rb, ro + 10, none⟩ = some (.slice pa1 cb1.length pc1) ∧ W.cell? ⟨rb, ro + 11, none⟩ = some (.int .i64 kd2) ∧ W.cell? ⟨rb, ro + 12, none⟩ = some (.int .i64 op2) ∧ W.cell? ⟨rb, ro + 13, none⟩ = some (.string tx2) ∧ W.cell? ⟨rb, ro + 14, none⟩ = some (.int .i64 v2.kd) ∧ W.cell? ⟨rb, ro + 15, none⟩ = some (.bool v2.nb) ∧ W.cell? ⟨rb, ro + 16, none⟩ = some (.slice ma2 v2.ms.length mc2) ∧ W.cell? ⟨rb, ro + 17, none⟩ = some (.int .u64 v2.ub) ∧ W.cell? ⟨rb, ro + 18, none⟩ = some (.string v2.tx) ∧ W.cell? ⟨rb, ro + 19, none⟩ = some (.slice ka2 v2.kn kc2) ∧ W.cell? ⟨rb, ro + 20, none⟩ = some (.slice sa2 ca2.length sc2) ∧ W.cell? ⟨rb, ro + 21, none⟩ = some (.slice pa2 cb2.length pc2)) := Li (fun W h1 h2 h3 => ⟨h2.cell 9 (by simp), h1.cell 0 (by simp), h1.cell 1 (by simp), h1.cell 2 (by simp), and_assoc2 (hrd1 B W h3) (hrd2 B W h3)⟩)
 have STEPD : Hid (∀ (w4 : World) (Tx bx cx bi4 bf4 : Nat), Stp (w3.alloc (.cells #[.pointer (some ⟨bm, 0, none⟩), .int .i32 ln, .int .i32 1] 63)).drew.heap.size (w3.alloc (.cells #[.pointer (some ⟨bm, 0, none⟩), .int .i32 ln, .int .i32 1] 63)).drew w4 bm bi bf bi4 bf4 → MK w4 H bm bi4 bf4 (q + (ctE x + ctE y)) → Nd (Gx w4 (w3.alloc (.cells #[.pointer (some ⟨bm, 0, none⟩), .int .i32 ln, .int .i32 1] 63)).drew.heap.size [bi4, bf4]) (.iface 134 (.pointer (some ⟨bx, 0, none⟩))) (nmE x ++ nmE y) cx → cx + 1 ≤ 3 * (ctE x + ctE y) →
     Blk w4 pb 63 [.pointer (some ⟨bm, 0, none⟩), .int .i32 ln, .int .i32 1] ∧ Blk w4 w.heap.size 75 [.int .i64 20, .int .i64 op, .string tx, .int .i64 v.kd, .bool v.nb, .slice ma v.ms.length mc, .int .u64 v.ub, .string v.tx, .slice ka v.kn kc, .slice (some ⟨rb, ro, none⟩) (l.length + 3) sc, .slice pa 0 pc] ∧ Old R B w4 ∧ Bld H bm bi bf q w4.heap.size pb w.heap.size ln 142 75 [.pointer none, .bool true, .pointer (some ⟨bm, 0, none⟩), .int .i32 ln, .int .i32 1, (.iface 134 (.pointer (some ⟨bx, 0, none⟩))), .slice none 0 0, .pointer (some ⟨bm, 0, none⟩), .int .i32 ln, .int .i32 1] [.int .i64 20, .int .i64 op, .string tx, .int .i64 v.kd, .bool v.nb, .slice ma v.ms.length mc, .int .u64 v.ub, .string v.tx, .slice ka v.kn kc, .slice (some ⟨rb, ro, none⟩) (l.length + 3) sc, .slice pa 0 pc] [(5, .x)] w (ctE x + ctE y) (ctE x + ctE y) [(.iface 134 (.pointer (some ⟨bx, 0, none⟩)))] (nmE x ++ nmE y) cx bi4 bf4 (w4.alloc (.cells #[.pointer none, .bool true, .pointer (some ⟨bm, 0, none⟩), .int .i32 ln, .int .i32 1, (.iface 134 (.pointer (some ⟨bx, 0, none⟩))), .slice none 0 0, .pointer (some ⟨bm, 0, none⟩), .int .i32 ln, .int .i32 1] 142))) := Li (fun w4 Tx bx cx bi4 bf4 hs4 hm4 hn4 hcx => by
   have hp4 := (hs4.blk HPD.out HPD.out.lt PN.out.1 PN.out.2.1 PN.out.2.2).1
   have he4 := (hs4.blk h9.out h9.out.lt EN.out.1 EN.out.2.1 EN.out.2.2).1
   have hsd : (w3.alloc (.cells #[.pointer (some ⟨bm, 0, none⟩), .int .i32 ln, .int .i32 1] 63)).drew.heap.size = (w3.alloc (.cells #[.pointer (some ⟨bm, 0, none⟩), .int .i32 ln, .int .i32 1] 63)).heap.size := rfl
   refine ⟨hp4, he4, (show Old R B (w3.alloc (.cells #[.pointer (some ⟨bm, 0, none⟩), .int .i32 ln, .int .i32 1] 63)).drew from HOP.out).below ((hs4.below (H := H) (by omega) (by omega) (by omega) (by omega)).mono hBH), ?_⟩
   exact Bld.start1 (L := [.pointer none, .bool true, .pointer (some ⟨bm, 0, none⟩), .int .i32 ln, .int .i32 1, (.iface 134 (.pointer (some ⟨bx, 0, none⟩))), .slice none 0 0, .pointer (some ⟨bm, 0, none⟩), .int .i32 ln, .int .i32 1]) (W := (w3.alloc (.cells #[.pointer (some ⟨bm, 0, none⟩), .int .i32 ln, .int .i32 1] 63)).drew) fr_comp fr_expr HST.out.drew hs4 hm4 hn4 (by omega) (by omega) hp4 he4 rfl)
 have i1 : (1 : Int) < ((l.length + 3 : Nat) : Int) := by omega
 have i1' : (1 : Int) < (l.length : Int) + 3 := by omega
 have i2 : ((l.length + 3 : Nat) : Int) ≤ (sc : Int) := by omega
 have i2' : (l.length : Int) + 3 ≤ (sc : Int) := by omega
 have i3 : (2 : Int) ≤ (sc : Int) := by omega
 have i5 : (2 : Int) ≤ (l.length : Int) + 3 := by omega
 have i0 : (0 : Int) < (l.length : Int) + 3 := by omega
 have HPOS' := hx
 clear hle hlk hx0 hrd1 hrd2
 go_upto_region 18 with fail
 go_region_held3 (fun W => W.cell? ⟨w.heap.size, 9, none⟩ = some (.slice (some ⟨rb, ro, none⟩) (l.length + 3) sc) ∧ W.cell? ⟨pb, 0, none⟩ = some (.pointer (some ⟨bm, 0, none⟩)) ∧ W.cell? ⟨pb, 1, none⟩ = some (.int .i32 ln) ∧ W.cell? ⟨pb, 2, none⟩ = some (.int .i32 1) ∧ W.cell? ⟨rb, ro, none⟩ = some (.int .i64 kd1) ∧ W.cell? ⟨rb, ro + 1, none⟩ = some (.int .i64 op1) ∧ W.cell? ⟨rb, ro + 2, none⟩ = some (.string tx1) ∧ W.cell? ⟨rb, ro + 3, none⟩ = some (.int .i64 v1.kd) ∧ W.cell? ⟨rb, ro + 4, none⟩ = some (.bool v1.nb) ∧ W.cell? ⟨rb, ro + 5, none⟩ = some (.slice ma1 v1.ms.length mc1) ∧ W.cell? ⟨rb, ro + 6, none⟩ = some (.int .u64 v1.ub) ∧ W.cell? ⟨rb, ro + 7, none⟩ = some (.string v1.tx) ∧ W.cell? ⟨rb, ro + 8, none⟩ = some (.slice ka1 v1.kn kc1) ∧ W.cell? ⟨rb, ro + 9, none⟩ = some (.slice sa1 ca1.length sc1) ∧ W.cell? ⟨rb, ro + 10, none⟩ = some (.slice pa1 cb1.length pc1) ∧ W.cell? ⟨rb, ro + 11, none⟩ = some (.int .i64 kd2) ∧ W.cell? ⟨rb, ro + 12, none⟩ = some (.int .i64 op2) ∧ W.cell? ⟨rb, ro + 13, none⟩ = some (.string tx2) ∧ W.cell? ⟨rb, ro + 14, none⟩ = some (.int .i64 v2.kd) ∧ W.cell? ⟨rb, ro + 15, none⟩ = some (.bool v2.nb) ∧ W.cell? ⟨rb, ro + 16, none⟩ = some (.slice ma2 v2.ms.length mc2) ∧ W.cell? ⟨rb, ro + 17, none⟩ = some (.int .u64 v2.ub) ∧ W.cell? ⟨rb, ro + 18, none⟩ = some (.string v2.tx) ∧ W.cell? ⟨rb, ro + 19, none⟩ = some (.slice ka2 v2.kn kc2) ∧ W.cell? ⟨rb, ro + 20, none⟩ = some (.slice sa2 ca2.length sc2) ∧ W.cell? ⟨rb, ro + 21, none⟩ = some (.slice pa2 cb2.length pc2)) (with_reducible first | exact KS.out _ HPD.out h9.out HOD.out | exact KS.out _ HP4.out HE4.out HO4.out | exact KS.out _ (HP4.out.alloc _) (HE4.out.alloc _) (HO4.out.alc _) | fail)
   ((first
     | (go_at_call 51; (with_reducible refine MX.out.mono ?_); rintro e w4 ⟨bx, cx, bi4, bf4, rfl, hs4, hm4, hn4, hcx⟩; obtain ⟨hp4, he4, ho4, bld⟩ := STEPD.out w4 0 bx cx bi4 bf4 hs4 hm4 hn4 hcx; have HP4 := Li hp4; have HE4 := Li he4; have HO4 := Li ho4; have BL := Li bld; clear hs4 hm4 hn4 hcx hp4 he4 ho4 bld)
     | fail))
 have f9 := BL.out.he.cell 9 (by simp)
 have i4 : ¬ sc = 2 := by omega
 have CLS := Li (mclauses_of (l := k :: l) (H := H) (bm := bm) (fun p hp t ht => HIH.out t (by have h1 := mem_a_lt ht; have h2 := List.sizeOf_lt_of_mem hp; simp at h1 h2 ⊢; omega)) hcl (some ⟨rb, ro + 22, none⟩) (sc - 2) (w4.alloc (.cells #[.pointer none, .bool true, .pointer (some ⟨bm, 0, none⟩), .int .i32 ln, .int .i32 1, (.iface 134 (.pointer (some ⟨bx, 0, none⟩))), .slice none 0 0, .pointer (some ⟨bm, 0, none⟩), .int .i32 ln, .int .i32 1] 142)) bi4 bf4 (q + (ctE x + ctE y)) (by have h0 := ExL.drop1 (ExL.drop1 HXA.out (by omega)) (by omega); simpa [Nat.add_assoc, Nat.sub_sub] using h0) (HO4.out.alc _) hBH BL.out.hm (by have := HQ.out; have := HLE.out; omega) (by have := HQ.out; have := HLE.out; have := HLK.out; omega))
 clear STEPD KS MX HP4 HE4 HO4
 go_wp2_with fail
 refine CLS.out.mono ?_
 rintro e w5 h5
 obtain ⟨a5, cc5, ch5, cn5, bi5, bf5, rfl, hx5, hb5⟩ := BL.out.putS h5 (j := 6) (by simp) (by simp)
 have c6 := hx5.cell 6 (by simp)
 have f6 := hx5.free 6
 have l6 := hx5.lt
 have FIN := Li (hb5.fin (T := 140) (N := ctE (Tr.mk 20 op tx v nm (x :: y :: k :: l) [] c d)) (NS := nmE (Tr.mk 20 op tx v nm (x :: y :: k :: l) [] c d)) (by simp [tbl]) (by rw [ctE_mk]; simp <;> omega) (by rw [ctE_mk]; simp <;> omega) (by rw [nmE_mk]; simp))
 clear h5 hx5 hb5 CLS BL
 go_wp2_with fail
 go_ret
 exact FIN.out
set_option maxHeartbeats 6400000 in
theorem mex_k18 {R : Nat → Nat → Option Value} {B H bm : Nat} (op : Int) (tx : ByteArray) (v : VV) (nm : List ByteArray) (x : Tr) (b : List Tr) (c d : List Tr) (ma ka sa pa : Option Addr) (mc kc sc pc : Nat) (w : World) (bi bf q : Nat) (IH : ∀ s, SizeOf.sizeOf s < SizeOf.sizeOf (Tr.mk 18 op tx v nm [x] b c d) → MEx R B H bm s) (hvr : VaR R v [.int .i64 v.kd, .bool v.nb, .slice ma v.ms.length mc, .int .u64 v.ub, .string v.tx, .slice ka v.kn kc]) (hxa : ExL R [x] (.slice sa 1 sc)) (hpa : PaL R b (.slice pa b.length pc)) (vt : ExV R (Tr.mk 18 op tx v nm [x] b c d) [.int .i64 18, .int .i64 op, .string tx, .int .i64 v.kd, .bool v.nb, .slice ma v.ms.length mc, .int .u64 v.ub, .string v.tx, .slice ka v.kn kc, .slice sa 1 sc, .slice pa b.length pc]) (ho : Old R B w) (hBH : B ≤ H) (hm : MK w H bm bi bf q) (hq : q + ctE (Tr.mk 18 op tx v nm [x] b c d) ≤ 8192) (ok : OkE (Tr.mk 18 op tx v nm [x] b c d)) :
   Calls Tryz.prog 45 #[.pointer (some ⟨bm, 0, none⟩), .agg #[.int .i64 18, .int .i64 op, .string tx, .int .i64 v.kd, .bool v.nb, .slice ma v.ms.length mc, .int .u64 v.ub, .string v.tx, .slice ka v.kn kc, .slice sa 1 sc, .slice pa b.length pc]] w (MPost H bm bi bf q (ctE (Tr.mk 18 op tx v nm [x] b c d)) (nmE (Tr.mk 18 op tx v nm [x] b c d)) w) := by
 obtain ⟨W0, hW0⟩ : ∃ W0, W0 = w.alloc (.cells #[.int .i64 18, .int .i64 op, .string tx, .int .i64 v.kd, .bool v.nb, .slice ma v.ms.length mc, .int .u64 v.ub, .string v.tx, .slice ka v.kn kc, .slice sa 1 sc, .slice pa b.length pc] 75) := ⟨_, rfl⟩
 have hb0 : Below w.heap.size w W0 := by rw [hW0]; exact (Below.refl _ _).alloc (Nat.le_refl _) _
 have hl := hm.lts
 have hO0 : Old R B W0 := ho.below (hb0.mono (by omega))
 have MANY := Li (many_any vt ok hO0 (by have := hb0.size; omega))
 have HB0 := Li hb0
 have HM := Li hm
 have HO := Li ho
 have HV := Li vt
 have HIH := Li IH
 have HOK := Li ok
 have HQ := Li hq
 have HVR := Li hvr
 have HXA := Li hxa
 have HPA := Li hpa
 clear hb0 hO0 hm ho vt IH ok hq hvr hxa hpa
 subst hW0
 go_enter Tryz.func45, Tryz.ntmps45
 go_wp2_with fail
 refine MANY.out.mono ?_
 rintro e w1 ⟨rfl, hb1⟩
 clear MANY
 have WT := Li (want_any H bm bi bf q w1 ((HM.out.below HB0.out).below hb1))
 go_wp2_with fail
 refine WT.out.mono ?_
 rintro e w2 ⟨rfl, hs2, hm2⟩
 clear WT
 have HPOS := Li (pos_any H bm bi bf q w2 hm2)
 go_wp2_with fail
 refine HPOS.out.mono ?_
 rintro e w3 ⟨ln, rfl, hb3⟩
 clear HPOS
 obtain ⟨pb, hpb⟩ : ∃ pb, w3.heap.size = pb := ⟨_, rfl⟩
 obtain ⟨hst, hmp, he, hop, hz3⟩ := mex_head (L := [.int .i64 18, .int .i64 op, .string tx, .int .i64 v.kd, .bool v.nb, .slice ma v.ms.length mc, .int .u64 v.ub, .string v.tx, .slice ka v.kn kc, .slice sa 1 sc, .slice pa b.length pc]) (by decide) (by decide) (by decide) HM.out HO.out hBH hb1 hs2 hm2 hb3 (.cells #[.pointer (some ⟨bm, 0, none⟩), .int .i32 ln, .int .i32 1] 63)
 have hpk : Blk (w3.alloc (.cells #[.pointer (some ⟨bm, 0, none⟩), .int .i32 ln, .int .i32 1] 63)) pb 63 [.pointer (some ⟨bm, 0, none⟩), .int .i32 ln, .int .i32 1] := by rw [← hpb]; exact Blk.new w3 _ _
 have d0 := he.cell 0 (by simp)
 have d2 := he.cell 2 (by simp)
 have HST := Li hst
 have HMP := Li hmp
 have HE := Li he
 have HOP := Li hop
 have HPK := Li hpk
 clear hb1 hs2 hm2 hb3 hst hmp he hop hpk
 obtain ⟨hx, hcl⟩ : OkE x ∧ (∀ t ∈ b, OkP t) := by
   cases HOK.out with
   | many _ _ _ _ _ _ _ _ hk => omega
   | lam _ _ _ _ _ _ _ _ hx h => exact ⟨hx, h⟩
 obtain ⟨iE, hiE, hzE, hsE, hbE⟩ := info_parts infoNode
 obtain ⟨rb, ro, rfl, hn3, hc3, hm3, hx0⟩ := ExL.at0 HXA.out
 obtain ⟨kd1, op1, tx1, v1, nm1, ca1, cb1, cc1, cd1, ma1, mc1, ka1, kc1, sa1, sc1, pa1, pc1, et1, hxv1, hrd1⟩ := hx0.rd
 unfold maxLen at hm3
 clear hn3
 simp only [List.length_nil] at hc3 hm3
 have hml := HM.out.lts
 have hzs := HST.out.size
 have hle : ctPs b + ctE x + 1 ≤ ctE (Tr.mk 18 op tx v nm [x] b c d) := by rw [ctE_mk]; simp; omega
 have hlk := len_le_ctPs (l := b)
 have HLK := Li hlk
 have HLE := Li hle
 have p0 := HPK.out.cell 0 (by simp)
 have p1 := HPK.out.cell 1 (by simp)
 have p2 := HPK.out.cell 2 (by simp)
 have hpz : (w3.alloc (.cells #[.pointer (some ⟨bm, 0, none⟩), .int .i32 ln, .int .i32 1] 63)).heap.size = pb + 1 := by simp [hpb]
 have BL : Hid (Bld H bm bi bf q (pb + 1) pb w.heap.size ln 169 75 [.pointer none, .pointer (some ⟨bm, 0, none⟩), .int .i32 ln, .int .i32 1, .slice none 0 0, .nilIface, .nilIface] [.int .i64 18, .int .i64 op, .string tx, .int .i64 v.kd, .bool v.nb, .slice ma v.ms.length mc, .int .u64 v.ub, .string v.tx, .slice ka v.kn kc, .slice (some ⟨rb, ro, none⟩) 1 sc, .slice pa b.length pc] [] w 0 0 [] [] 0 bi bf ((w3.alloc (.cells #[.pointer (some ⟨bm, 0, none⟩), .int .i32 ln, .int .i32 1] 63)).alloc (.cells #[.pointer none, .pointer (some ⟨bm, 0, none⟩), .int .i32 ln, .int .i32 1, .slice none 0 0, .nilIface, .nilIface] 169))) := Li (by
   have := Bld.start0 (L := [.pointer none, .pointer (some ⟨bm, 0, none⟩), .int .i32 ln, .int .i32 1, .slice none 0 0, .nilIface, .nilIface]) (W := (w3.alloc (.cells #[.pointer (some ⟨bm, 0, none⟩), .int .i32 ln, .int .i32 1] 63))) fr_lam fr_expr HST.out HMP.out (by omega) HPK.out HE.out
   rw [hpz] at this
   exact this)
 obtain ⟨nm0, cnt, lne, vi, vf, ni, nf, xi, xf, hk, hi, hf, hqq, e1, e2, hH⟩ := BL.out.hm
 obtain ⟨fa, fc, rfl⟩ := own_form hf
 have hbR : Below ((w3.alloc (.cells #[.pointer (some ⟨bm, 0, none⟩), .int .i32 ln, .int .i32 1] 63)).alloc (.cells #[.pointer none, .pointer (some ⟨bm, 0, none⟩), .int .i32 ln, .int .i32 1, .slice none 0 0, .nilIface, .nilIface] 169)).heap.size ((w3.alloc (.cells #[.pointer (some ⟨bm, 0, none⟩), .int .i32 ln, .int .i32 1] 63)).alloc (.cells #[.pointer none, .pointer (some ⟨bm, 0, none⟩), .int .i32 ln, .int .i32 1, .slice none 0 0, .nilIface, .nilIface] 169)) (((w3.alloc (.cells #[.pointer (some ⟨bm, 0, none⟩), .int .i32 ln, .int .i32 1] 63)).alloc (.cells #[.pointer none, .pointer (some ⟨bm, 0, none⟩), .int .i32 ln, .int .i32 1, .slice none 0 0, .nilIface, .nilIface] 169)).alloc (.cells #[.iface 167 (.pointer (some ⟨pb + 1, 0, none⟩))] 55)) := (Below.refl _ _).alloc (Nat.le_refl _) _
 have OWNF := Li (own_below hf hbR)
 have HBR := Li hbR
 have m4 : ((w3.alloc (.cells #[.pointer (some ⟨bm, 0, none⟩), .int .i32 ln, .int .i32 1] 63)).alloc (.cells #[.pointer none, .pointer (some ⟨bm, 0, none⟩), .int .i32 ln, .int .i32 1, .slice none 0 0, .nilIface, .nilIface] 169)).cell? ⟨bm, 4, none⟩ = some (.slice fa nf fc) := hk.cell 4 (by simp)
 have KC : Hid (∀ w4 : World, (((w3.alloc (.cells #[.pointer (some ⟨bm, 0, none⟩), .int .i32 ln, .int .i32 1] 63)).alloc (.cells #[.pointer none, .pointer (some ⟨bm, 0, none⟩), .int .i32 ln, .int .i32 1, .slice none 0 0, .nilIface, .nilIface] 169)).alloc (.cells #[.iface 167 (.pointer (some ⟨pb + 1, 0, none⟩))] 55)).grownBy w4 (Value.slice fa nf fc).ownBlock → w4.cell? ⟨bm, 4, none⟩ = some (.slice fa nf fc) ∧ w4.frozen? ⟨bm, 4, none⟩ = false ∧ bm < w4.heap.size) := Li (fun w4 hg => by
   have hk4 := (hk.below hbR hk.lt).far_own OWNF.out (by decide) hg
   exact ⟨hk4.cell 4 (by simp), hk4.free 4, hk4.lt⟩)
 have hxz : ((w3.alloc (.cells #[.pointer (some ⟨bm, 0, none⟩), .int .i32 ln, .int .i32 1] 63)).alloc (.cells #[.pointer none, .pointer (some ⟨bm, 0, none⟩), .int .i32 ln, .int .i32 1, .slice none 0 0, .nilIface, .nilIface] 169)).heap.size = pb + 2 := by simp [hpb]
 have HSL : Hid (Sl (((w3.alloc (.cells #[.pointer (some ⟨bm, 0, none⟩), .int .i32 ln, .int .i32 1] 63)).alloc (.cells #[.pointer none, .pointer (some ⟨bm, 0, none⟩), .int .i32 ln, .int .i32 1, .slice none 0 0, .nilIface, .nilIface] 169)).alloc (.cells #[.iface 167 (.pointer (some ⟨pb + 1, 0, none⟩))] 55)) (pb + 3) (.slice (some ⟨pb + 2, 0, none⟩) 1 1) [.iface 167 (.pointer (some ⟨pb + 1, 0, none⟩))]) := Li (by
   have h0 : Sl (((w3.alloc (.cells #[.pointer (some ⟨bm, 0, none⟩), .int .i32 ln, .int .i32 1] 63)).alloc (.cells #[.pointer none, .pointer (some ⟨bm, 0, none⟩), .int .i32 ln, .int .i32 1, .slice none 0 0, .nilIface, .nilIface] 169)).alloc (.cells #[.iface 167 (.pointer (some ⟨pb + 1, 0, none⟩))] 55)) (((w3.alloc (.cells #[.pointer (some ⟨bm, 0, none⟩), .int .i32 ln, .int .i32 1] 63)).alloc (.cells #[.pointer none, .pointer (some ⟨bm, 0, none⟩), .int .i32 ln, .int .i32 1, .slice none 0 0, .nilIface, .nilIface] 169)).heap.size + 1) (.slice (some ⟨((w3.alloc (.cells #[.pointer (some ⟨bm, 0, none⟩), .int .i32 ln, .int .i32 1] 63)).alloc (.cells #[.pointer none, .pointer (some ⟨bm, 0, none⟩), .int .i32 ln, .int .i32 1, .slice none 0 0, .nilIface, .nilIface] 169)).heap.size, 0, none⟩) 1 1) [.iface 167 (.pointer (some ⟨pb + 1, 0, none⟩))] := Sl.one _ _ _ rfl
   rw [hxz] at h0; exact h0)
 have FN : Hid (∀ v' w4 n' x', w4.ownsRow H 55 1 v' n' x' → n' ≤ nf + 1 → (((w3.alloc (.cells #[.pointer (some ⟨bm, 0, none⟩), .int .i32 ln, .int .i32 1] 63)).alloc (.cells #[.pointer none, .pointer (some ⟨bm, 0, none⟩), .int .i32 ln, .int .i32 1, .slice none 0 0, .nilIface, .nilIface] 169)).alloc (.cells #[.iface 167 (.pointer (some ⟨pb + 1, 0, none⟩))] 55)).grownBy w4 (Value.slice fa nf fc).ownBlock → (v'.ownBlock = (Value.slice fa nf fc).ownBlock ∨ v'.ownBlock = some (((w3.alloc (.cells #[.pointer (some ⟨bm, 0, none⟩), .int .i32 ln, .int .i32 1] 63)).alloc (.cells #[.pointer none, .pointer (some ⟨bm, 0, none⟩), .int .i32 ln, .int .i32 1, .slice none 0 0, .nilIface, .nilIface] 169)).alloc (.cells #[.iface 167 (.pointer (some ⟨pb + 1, 0, none⟩))] 55)).heap.size) → ∃ bf', Bld H bm bi bf q (pb + 1) pb w.heap.size ln 169 75 [.pointer none, .pointer (some ⟨bm, 0, none⟩), .int .i32 ln, .int .i32 1, .slice none 0 0, .nilIface, .nilIface] [.int .i64 18, .int .i64 op, .string tx, .int .i64 v.kd, .bool v.nb, .slice ma v.ms.length mc, .int .u64 v.ub, .string v.tx, .slice ka v.kn kc, .slice (some ⟨rb, ro, none⟩) 1 sc, .slice pa b.length pc] [] w 0 1 [] [] 0 bi bf' (w4.setCell ⟨bm, 4, none⟩ v')) := Li (fun v' w4 n' x' g1 g0 g2 g3 => by
   obtain ⟨bf', s1, s2, _⟩ := MK.app_f hbR hk hi hf hqq e1 e2 hH g0 g1 g2 g3
   exact ⟨bf', BL.out.keep s1 s2⟩)
 have hqn : nf ≤ 8192 := by have := HQ.out; omega
 have hHW : Hid (H ≤ (((w3.alloc (.cells #[.pointer (some ⟨bm, 0, none⟩), .int .i32 ln, .int .i32 1] 63)).alloc (.cells #[.pointer none, .pointer (some ⟨bm, 0, none⟩), .int .i32 ln, .int .i32 1, .slice none 0 0, .nilIface, .nilIface] 169)).alloc (.cells #[.iface 167 (.pointer (some ⟨pb + 1, 0, none⟩))] 55)).heap.size) := Li (by have := hbR.size; have := BL.out.hm.lts; omega)
 clear hk hi hf e1 e2 hle hlk hx0 hbR hqq hzs hxz
 go_wp2_with (at_builtin; refine wpList_append_to _ rfl (.tmp 101) (.tmp 104) 81 rfl H 55 iE _ 16 Tryz.underlying81 hiE hzE hsE hbE rfl (.slice fa nf fc) nf _ rfl OWNF.out _ _ _ rfl HSL.out (by intro u hu; simp at hu; subst hu; rfl) (by unfold maxLen; simp; omega) (by simp; omega) hHW.out ?_; intro v4 w4 g1 g2 g3; obtain ⟨bf', bl⟩ := FN.out v4 w4 _ _ g1 (by simp) g2 g3; have BL2 := Li bl; obtain ⟨r1, r2, r3⟩ := KC.out w4 g2; obtain ⟨a4, k4, hv4⟩ := own_form (show w4.ownsRow H 55 1 v4 (nf + 1) _ from g1); subst hv4; have d10 := BL2.out.he.cell 10 (by simp); clear g1 g2 g3 bl)
 have HO2 : Hid (Old R B (w4.setCell ⟨bm, 4, none⟩ (.slice a4 (nf + 1) k4))) := Li (HO.out.below ((BL2.out.hs.below (H := H) (by omega) (by omega) (by omega) (by omega)).mono hBH))
 have PAR := Li (mparams_of (l := b) (H := H) (bm := bm) (fun p hp t ht => HIH.out t (by have h1 := mem_a_lt ht; have h2 := List.sizeOf_lt_of_mem hp; simp at h1 h2 ⊢; omega)) hcl pa pc (w4.setCell ⟨bm, 4, none⟩ (.slice a4 (nf + 1) k4)) bi bf' (q + 1) HPA.out HO2.out hBH BL2.out.hm (by have := HQ.out; have := HLE.out; omega) (by have := HQ.out; have := HLE.out; have := HLK.out; omega))
 clear KC FN OWNF HSL hHW m4 r1 r2 r3
 go_wp2_with fail
 refine PAR.out.mono ?_
 rintro e w5 h5
 obtain ⟨a5, cc5, ch5, cn5, bi5, bf5, rfl, hx5, hb5⟩ := BL2.out.putS h5 (j := 4) (by simp) (by simp)
 have c6 := hx5.cell 4 (by simp)
 have f6 := hx5.free 4
 have l6 := hx5.lt
 have BL3 := Li hb5
 have HO3 : Hid (Old R B (w5.setCell ⟨pb + 1, 4, none⟩ (.slice a5 b.length cc5))) := Li (HO.out.below ((BL3.out.hs.below (H := H) (by omega) (by omega) (by omega) (by omega)).mono hBH))
 have d9 := BL3.out.he.cell 9 (by simp)
 obtain ⟨x0, x1, x2, x3, x4, x5, x6, x7, x8, x9, x10⟩ := hrd1 B _ HO3.out
 have MX := Li (HIH.out x (by simp; omega) _ (w5.setCell ⟨pb + 1, 4, none⟩ (.slice a5 b.length cc5)) bi5 bf5 (q + (1 + ctPs b)) hxv1 HO3.out hBH BL3.out.hm (by have := HQ.out; have := HLE.out; omega) hx)
 clear h5 hx5 hb5 PAR BL2 HO2 hrd1
 go_wp2_with fail
 refine MX.out.mono ?_
 rintro e w7 h7
 obtain ⟨T7, b7, cn7, bi7, bf7, rfl, hx7, hb7⟩ := BL3.out.putX h7 (j := 5) (by simp) (by simp)
 have c7 := hx7.cell 5 (by simp)
 have f7 := hx7.free 5
 have l7 := hx7.lt
 have FIN := Li (hb7.fin (T := 167) (N := ctE (Tr.mk 18 op tx v nm [x] b c d)) (NS := nmE (Tr.mk 18 op tx v nm [x] b c d)) (by simp [tbl]) (by rw [ctE_mk]; simp <;> omega) (by rw [ctE_mk]; simp <;> omega) (by rw [nmE_mk]; simp))
 clear h7 hx7 hb7 MX BL3 HO3
 go_wp2_with fail
 go_ret
 exact FIN.out
end Go.Proofs.YtoojgjhfmmohbaaGreat
