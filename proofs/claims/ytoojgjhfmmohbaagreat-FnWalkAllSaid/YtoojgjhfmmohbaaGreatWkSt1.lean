/- maker.compound (printed by genwkst2.py). -/
import Derived.Test.YtoojgjhfmmohbaaGreatMSta
namespace Go.Proofs.YtoojgjhfmmohbaaGreat
open Go.RowKit Dig
set_option linter.unusedVariables false
set_option linter.unusedSimpArgs false
set_option maxRecDepth 100000
theorem fr_stmt : Fr 42 := by unfold Fr; decide
structure Acc (H bm bi bf q pb eb : Nat) (ln : Int) (et : TypeId) (EE : List Value) (w : World) (n bi' bf' : Nat) (wr : World) : Prop where
 hp : Blk wr pb 63 [.pointer (some ⟨bm, 0, none⟩), .int .i32 ln, .int .i32 1]
 he : Blk wr eb et EE
 hs : Stp w.heap.size w wr bm bi bf bi' bf'
 hm : MK wr H bm bi' bf' (q + n)
 hl : bm < w.heap.size
 t2 : Fr et
section
variable {H bm bi bf q pb eb : Nat} {ln : Int} {et : TypeId} {EE : List Value} {w : World} {n bi' bf' : Nat} {wr : World}
theorem Acc.keep (h : Acc H bm bi bf q pb eb ln et EE w n bi' bf' wr) {w2 : World} {k bi2 bf2 : Nat} (hs : Stp wr.heap.size wr w2 bm bi' bf' bi2 bf2) (hm : MK w2 H bm bi2 bf2 (q + n + k)) : Acc H bm bi bf q pb eb ln et EE w (n + k) bi2 bf2 w2 ∧ GLe (Gx wr w.heap.size [bi', bf']) (Gx w2 w.heap.size [bi2, bf2]) := by
 obtain ⟨a1, a2, a3⟩ := h.hm.ne h.hp (by decide) (by decide) (by decide)
 obtain ⟨b1, b2, b3⟩ := h.hm.ne h.he h.t2.1 h.t2.2.1 h.t2.2.2
 exact ⟨⟨(hs.blk h.hp h.hp.lt a1 a2 a3).1, (hs.blk h.he h.he.lt b1 b2 b3).1, h.hs.trans (hs.mono h.hs.size), by rw [← Nat.add_assoc]; exact hm, h.hl, h.t2⟩, Gx.stp hs h.hl []⟩
theorem Acc.drew (h : Acc H bm bi bf q pb eb ln et EE w n bi' bf' wr) : Acc H bm bi bf q pb eb ln et EE w n bi' bf' wr.drew := ⟨h.hp, h.he, h.hs.drew, h.hm, h.hl, h.t2⟩
theorem Acc.row (h : Acc H bm bi bf q pb eb ln et EE w n bi' bf' wr) {w2 : World} {k len : Nat} {ns2 : List ByteArray} {en : Ending} (hp : MLPost H bm bi' bf' (q + n) k len ns2 wr en w2) :
   ∃ a cc vs c bi2 bf2, en = .returned (.slice a len cc) ∧ vs.length = len ∧ Acc H bm bi bf q pb eb ln et EE w (n + k) bi2 bf2 w2 ∧ GLe (Gx wr w.heap.size [bi', bf']) (Gx w2 w.heap.size [bi2, bf2]) ∧ RowG (Gx w2 w.heap.size [bi2, bf2]) (.slice a len cc) vs ∧ Nds (Gx w2 w.heap.size [bi2, bf2]) vs ns2 c ∧ c ≤ 3 * k := by
 obtain ⟨a, cc, vs, c, bi2, bf2, rfl, hvl, hs, hm, hr, hn, hc⟩ := hp
 obtain ⟨h1, h2⟩ := h.keep hs hm
 have hg : GLe (Gx w2 wr.heap.size [bi2, bf2]) (Gx w2 w.heap.size [bi2, bf2]) := Gx.le h.hs.size fun b _ _ h3 => ⟨h3, rfl⟩
 exact ⟨a, cc, vs, c, bi2, bf2, rfl, hvl, h1, h2, hr.mono hg, hn.mono hg, hc⟩
theorem Acc.fin (h : Acc H bm bi bf q pb eb ln et EE w n bi' bf' wr) {T e : TypeId} {sl : List (Nat × Kd)} {L ch : List Value} {ns NS : List ByteArray} {c N : Nat} (hT : (T, e, sl) ∈ tbl) (hch : Ch (Gx wr w.heap.size [bi', bf']) L sl ch) (hn : Nds (Gx wr w.heap.size [bi', bf']) ch ns c) (hc : c + 2 ≤ 3 * N) (hN : n ≤ N) (hNS : NS = ns) :
   MPost H bm bi bf q N NS w (.returned (.iface T (.pointer (some ⟨wr.heap.size, 0, none⟩)))) (wr.alloc (.cells L.toArray e)) := by
 have hbx : Below wr.heap.size wr (wr.alloc (.cells L.toArray e)) := (Below.refl _ _).alloc (Nat.le_refl _) _
 have hz := h.hs.size
 obtain ⟨_, _, _, _, l5, l6⟩ := h.hm.lts
 subst hNS
 exact ⟨T, wr.heap.size, c + 1, bi', bf', rfl, h.hs.trans (Stp.of_below (hbx.mono hz)), (h.hm.below hbx).mono (by omega), .node T e sl hT _ L (Gx.of (Blk.new wr _ _) hz (by simp; omega)) ch (hch.mono (Gx.below hbx)) NS c (hn.mono (Gx.below hbx)), by omega⟩
end
theorem Nds.one_of {G : Nat → Option Obj} {vs : List Value} {ns : List ByteArray} {c : Nat} (h : Nds G vs ns c) (hl : vs.length = 1) : ∃ T b, vs = [.iface T (.pointer (some ⟨b, 0, none⟩))] := by
 match vs, hl, h with
 | [v], _, .cons _ _ _ _ _ _ h1 _ =>
   obtain ⟨T, b, rfl⟩ := h1.form
   exact ⟨T, b, rfl⟩
theorem Nds.two_of {G : Nat → Option Obj} {vs : List Value} {ns : List ByteArray} {c : Nat} (h : Nds G vs ns c) (hl : vs.length = 2) : ∃ T b T' b', vs = [.iface T (.pointer (some ⟨b, 0, none⟩)), .iface T' (.pointer (some ⟨b', 0, none⟩))] := by
 match vs, hl, h with
 | [v, v'], _, .cons _ _ _ _ _ _ h1 (.cons _ _ _ _ _ _ h2 _) =>
   obtain ⟨T, b, rfl⟩ := h1.form
   obtain ⟨T', b', rfl⟩ := h2.form
   exact ⟨T, b, T', b', rfl⟩
set_option maxHeartbeats 6400000 in
theorem compound_k4 {R : Nat → Nat → Option Value} {B H bm : Nat} (op : Int) (tx : ByteArray) (v : VV) (nm : List ByteArray) (x : Tr) (c : List Tr) (d : List Tr) (na sa pa ba ea : Option Addr) (nc sc pc bc ec : Nat) (w : World) (bi bf q : Nat) (okx : OkE x) (hcn : c ≠ []) (HC : ∀ t ∈ c, MSt R B H bm t ∧ OkS t ∧ PlS t) (HD : ∀ t ∈ d, MSt R B H bm t ∧ OkS t ∧ PlS t) (hxa : ExL R [x] (.slice sa 1 sc)) (hsc : StL R c (.slice ba c.length bc)) (hsd : StL R d (.slice ea d.length ec)) (ho : Old R B w) (hBH : B ≤ H) (hm : MK w H bm bi bf (q + 1)) (hq : q + ctS (Tr.mk 4 op tx v nm [x] [] c d) ≤ 8192) :
   Calls Tryz.prog 38 #[.pointer (some ⟨bm, 0, none⟩), .agg #[.int .i64 4, .int .i64 op, .string tx, .slice na nm.length nc, .slice sa 1 sc, .slice pa 0 pc, .slice ba c.length bc, .slice ea d.length ec]] w (MPost H bm bi bf q (ctS (Tr.mk 4 op tx v nm [x] [] c d)) (nmS (Tr.mk 4 op tx v nm [x] [] c d)) w) := by
 obtain ⟨W0, hW0⟩ : ∃ W0, W0 = w.alloc (.cells #[.int .i64 4, .int .i64 op, .string tx, .slice na nm.length nc, .slice sa 1 sc, .slice pa 0 pc, .slice ba c.length bc, .slice ea d.length ec] 42) := ⟨_, rfl⟩
 have hb0 : Below w.heap.size w W0 := by rw [hW0]; exact (Below.refl _ _).alloc (Nat.le_refl _) _
 have hl := hm.lts
 have HPOS := Li (pos_any H bm bi bf (q + 1) W0 (hm.below hb0))
 have HB0 := Li hb0
 have HM := Li hm
 have HO := Li ho
 have HQ := Li hq
 have HXA := Li hxa
 have HSC := Li hsc
 have HCC := Li HC
 have HCN := Li hcn
 have HDD := Li HD
 have HSD := Li hsd
 clear HD hsd
 clear hb0 hm ho hq hxa hsc HC hcn
 subst hW0
 go_enter Tryz.func38, Tryz.ntmps38
 go_wp2_with fail
 refine HPOS.out.mono ?_
 rintro e w1 ⟨ln, rfl, hb1⟩
 clear HPOS
 obtain ⟨pb, hpb⟩ : ∃ pb, w1.heap.size = pb := ⟨_, rfl⟩
 obtain ⟨hst, hmp, he, hop, hz3⟩ := mex_head (L := [.int .i64 4, .int .i64 op, .string tx, .slice na nm.length nc, .slice sa 1 sc, .slice pa 0 pc, .slice ba c.length bc, .slice ea d.length ec]) (by decide) (by decide) (by decide) HM.out HO.out hBH hb1 (Stp.refl _ _ _ _ _) ((HM.out.below HB0.out).below hb1) (Below.refl _ _) (.cells #[.pointer (some ⟨bm, 0, none⟩), .int .i32 ln, .int .i32 1] 63)
 have hpk : Blk (w1.alloc (.cells #[.pointer (some ⟨bm, 0, none⟩), .int .i32 ln, .int .i32 1] 63)) pb 63 [.pointer (some ⟨bm, 0, none⟩), .int .i32 ln, .int .i32 1] := by rw [← hpb]; exact Blk.new w1 _ _
 have d4 := he.cell 4 (by simp)
 have A0 : Hid (Acc H bm bi bf q pb w.heap.size ln 42 [.int .i64 4, .int .i64 op, .string tx, .slice na nm.length nc, .slice sa 1 sc, .slice pa 0 pc, .slice ba c.length bc, .slice ea d.length ec] w 1 bi bf (w1.alloc (.cells #[.pointer (some ⟨bm, 0, none⟩), .int .i32 ln, .int .i32 1] 63))) := Li ⟨hpk, he, hst, hmp, by omega, fr_stmt⟩
 have hct : ctEs [x] + ctSs c + ctSs d + 1 ≤ ctS (Tr.mk 4 op tx v nm [x] [] c d) := by rw [ctS_mk]; simp; omega
 have HCT := Li hct
 have EX := Li (mexprs_of (l := [x]) (H := H) (bm := bm) (fun t _ => mex_any R B H bm t) (by simp; exact okx) sa sc (w1.alloc (.cells #[.pointer (some ⟨bm, 0, none⟩), .int .i32 ln, .int .i32 1] 63)) bi bf (q + 1) HXA.out hop hBH hmp (by have := HQ.out; omega) (by simp))
 clear hb1 hst hmp he hop hpk hct
 go_wp2_with fail
 refine EX.out.mono ?_
 rintro e w4 h4
 obtain ⟨la, lc, vs1, c1, bi4, bf4, rfl, hvl1, hA1, _, hR1, hN1, hc1⟩ := A0.out.row h4
 have A1 := Li hA1
 have R1 := Li hR1
 have N1 := Li hN1
 have d6 := hA1.he.cell 6 (by simp)
 have HO4 : Hid (Old R B w4) := Li (HO.out.below ((hA1.hs.below (H := H) (by omega) (by omega) (by omega) (by omega)).mono hBH))
 have BD := Li (mbody_of (l := c) (H := H) (bm := bm) (fun t ht => (HCC.out t ht).1) (fun t ht => (HCC.out t ht).2.1) (fun t ht => (HCC.out t ht).2.2) HCN.out ba bc w4 bi4 bf4 (q + (1 + ctEs [x])) HSC.out HO4.out hBH hA1.hm (by have := HQ.out; have := HCT.out; omega))
 clear h4 hA1 hR1 hN1 EX A0 d4
 go_wp2_with fail
 refine BD.out.mono ?_
 rintro e w5 h5
 obtain ⟨lb, lbc, vs2, c2, bi5, bf5, rfl, hvl2, hA2, hG2, hR2, hN2, hc2⟩ := A1.out.row h5
 obtain ⟨rb, rfl, hrb, hrc, hrm, hvlr, hrow⟩ := (R1.out.mono hG2).cells (by simp)
 unfold maxLen at hrm
 have N1' := Li (N1.out.mono hG2)
 obtain ⟨T0, b0, rfl⟩ := N1'.out.one_of hvl1
 have v0c := hrow 0 _ rfl
 clear hrow
 have A2 := Li hA2
 have R1' := Li (R1.out.mono hG2)
 have R2 := Li hR2
 have N2 := Li hN2
 have d0 := hA2.he.cell 0 (by simp)
 clear h5 hA2 hR2 hN2 hG2 BD A1 R1 N1 d6 HO4 hrb hvlr
 have A2d : Hid (Acc H bm bi bf q pb w.heap.size ln 42 [.int .i64 4, .int .i64 op, .string tx, .slice na nm.length nc, .slice sa 1 sc, .slice pa 0 pc, .slice ba c.length bc, .slice ea d.length ec] w (1 + ctEs [x] + ctSs c) bi5 bf5 w5.drew) := Li A2.out.drew
 have v0d : w5.drew.cell? ⟨rb, 0, none⟩ = some (.iface T0 (.pointer (some ⟨b0, 0, none⟩))) := v0c
 have HO5 : Hid (Old R B w5.drew) := Li (show Old R B w5 from HO.out.below ((A2.out.hs.below (H := H) (by omega) (by omega) (by omega) (by omega)).mono hBH))
 have SD := Li (mstmts_of (l := d) (H := H) (bm := bm) (fun t ht => (HDD.out t ht).1) (fun t ht => (HDD.out t ht).2.1) (fun t ht => (HDD.out t ht).2.2) ea ec w5.drew bi5 bf5 (q + (1 + ctEs [x] + ctSs c)) HSD.out HO5.out hBH A2d.out.hm (by have := HQ.out; have := HCT.out; omega) (by have := len_le_ctSs (l := d); have := HQ.out; have := HCT.out; omega))
 have KS : Hid (∀ (W : World) (n' bi' bf' : Nat), Acc H bm bi bf q pb w.heap.size ln 42 [.int .i64 4, .int .i64 op, .string tx, .slice na nm.length nc, .slice sa 1 sc, .slice pa 0 pc, .slice ba c.length bc, .slice ea d.length ec] w n' bi' bf' W → W.cell? ⟨rb, 0, none⟩ = some (.iface T0 (.pointer (some ⟨b0, 0, none⟩))) → W.cell? ⟨pb, 0, none⟩ = some (.pointer (some ⟨bm, 0, none⟩)) ∧ W.cell? ⟨pb, 1, none⟩ = some (.int .i32 ln) ∧ W.cell? ⟨pb, 2, none⟩ = some (.int .i32 1) ∧ W.cell? ⟨rb, 0, none⟩ = some (.iface T0 (.pointer (some ⟨b0, 0, none⟩))) ∧ W.cell? ⟨w.heap.size, 7, none⟩ = some (.slice ea d.length ec)) := Li (fun W n' bi' bf' h hx => ⟨h.hp.cell 0 (by simp), h.hp.cell 1 (by simp), h.hp.cell 2 (by simp), hx, h.he.cell 7 (by simp)⟩)
 have STEPD : Hid (∀ (en : Ending) (w6 : World), MLPost H bm bi5 bf5 (q + (1 + ctEs [x] + ctSs c)) (ctSs d) d.length (nmSs d) w5.drew en w6 → ∃ le lec n6 bi6 bf6, en = .returned (.slice le d.length lec) ∧ Acc H bm bi bf q pb w.heap.size ln 42 [.int .i64 4, .int .i64 op, .string tx, .slice na nm.length nc, .slice sa 1 sc, .slice pa 0 pc, .slice ba c.length bc, .slice ea d.length ec] w n6 bi6 bf6 w6 ∧ w6.cell? ⟨rb, 0, none⟩ = some (.iface T0 (.pointer (some ⟨b0, 0, none⟩))) ∧ (w6.alloc (.cells #[.pointer none, .pointer (some ⟨bm, 0, none⟩), .int .i32 ln, .int .i32 1, .iface T0 (.pointer (some ⟨b0, 0, none⟩)), .slice lb c.length lbc, .pointer (some ⟨bm, 0, none⟩), .int .i32 ln, .int .i32 1, .slice le d.length lec] 99)).cell? ⟨rb, 0, none⟩ = some (.iface T0 (.pointer (some ⟨b0, 0, none⟩))) ∧ Acc H bm bi bf q pb w.heap.size ln 42 [.int .i64 4, .int .i64 op, .string tx, .slice na nm.length nc, .slice sa 1 sc, .slice pa 0 pc, .slice ba c.length bc, .slice ea d.length ec] w n6 bi6 bf6 (w6.alloc (.cells #[.pointer none, .pointer (some ⟨bm, 0, none⟩), .int .i32 ln, .int .i32 1, .iface T0 (.pointer (some ⟨b0, 0, none⟩)), .slice lb c.length lbc, .pointer (some ⟨bm, 0, none⟩), .int .i32 ln, .int .i32 1, .slice le d.length lec] 99)) ∧ MPost H bm bi bf q (ctS (Tr.mk 4 op tx v nm [x] [] c d)) (nmS (Tr.mk 4 op tx v nm [x] [] c d)) w (.returned (.iface 97 (.pointer (some ⟨w6.heap.size, 0, none⟩)))) (w6.alloc (.cells #[.pointer none, .pointer (some ⟨bm, 0, none⟩), .int .i32 ln, .int .i32 1, .iface T0 (.pointer (some ⟨b0, 0, none⟩)), .slice lb c.length lbc, .pointer (some ⟨bm, 0, none⟩), .int .i32 ln, .int .i32 1, .slice le d.length lec] 99))) := Li (fun en w6 h6 => by
   obtain ⟨le, lec, vs3, c3, bi6, bf6, rfl, hvl3, hA3, hG3, hR3, hN3, hc3⟩ := A2d.out.row h6
   have hG3 : GLe (Gx w5 w.heap.size [bi5, bf5]) (Gx w6 w.heap.size [bi6, bf6]) := hG3
   obtain ⟨rb', e1, _, _, _, _, hrow⟩ := (R1'.out.mono hG3).cells (by simp)
   simp only [Option.some.injEq, Addr.mk.injEq, and_true] at e1
   subst e1
   have hv6 := hrow 0 _ rfl
   have hbx : Below w6.heap.size w6 (w6.alloc (.cells #[.pointer none, .pointer (some ⟨bm, 0, none⟩), .int .i32 ln, .int .i32 1, .iface T0 (.pointer (some ⟨b0, 0, none⟩)), .slice lb c.length lbc, .pointer (some ⟨bm, 0, none⟩), .int .i32 ln, .int .i32 1, .slice le d.length lec] 99)) := (Below.refl _ _).alloc (Nat.le_refl _) _
   have hA4 := (hA3.keep (Stp.of_below hbx) (k := 0) (hA3.hm.below hbx)).1
   have hnn := (N1'.out.mono hG3).append ((N2.out.mono hG3).append hN3)
   have FINP := hA3.fin (L := [.pointer none, .pointer (some ⟨bm, 0, none⟩), .int .i32 ln, .int .i32 1, .iface T0 (.pointer (some ⟨b0, 0, none⟩)), .slice lb c.length lbc, .pointer (some ⟨bm, 0, none⟩), .int .i32 ln, .int .i32 1, .slice le d.length lec]) (N := ctS (Tr.mk 4 op tx v nm [x] [] c d)) (NS := nmS (Tr.mk 4 op tx v nm [x] [] c d)) (T := 97) (e := 99) (sl := [(4, .x), (5, .s), (9, .s)]) (by simp [tbl]) (.x 4 _ _ _ rfl (.s 5 _ _ _ _ rfl (R2.out.mono hG3) (.s 9 _ _ _ _ rfl hR3 .nil))) (by simpa using hnn) (by have := HCT.out; omega) (by have := HCT.out; omega) (by rw [nmS_mk]; simp)
   exact ⟨le, lec, _, bi6, bf6, rfl, hA3, hv6, lt_of_cell hv6 |> fun hlt => ((by rw [World.cell?_of_block (a := ⟨rb, 0, none⟩) (Below.heap_alloc w6 _ rb hlt)]; exact hv6) : (w6.alloc (.cells #[.pointer none, .pointer (some ⟨bm, 0, none⟩), .int .i32 ln, .int .i32 1, .iface T0 (.pointer (some ⟨b0, 0, none⟩)), .slice lb c.length lbc, .pointer (some ⟨bm, 0, none⟩), .int .i32 ln, .int .i32 1, .slice le d.length lec] 99)).cell? ⟨rb, 0, none⟩ = some (.iface T0 (.pointer (some ⟨b0, 0, none⟩)))), hA4, FINP⟩)
 go_upto_region 6 with fail
 go_region_held3 (fun W => W.cell? ⟨pb, 0, none⟩ = some (.pointer (some ⟨bm, 0, none⟩)) ∧ W.cell? ⟨pb, 1, none⟩ = some (.int .i32 ln) ∧ W.cell? ⟨pb, 2, none⟩ = some (.int .i32 1) ∧ W.cell? ⟨rb, 0, none⟩ = some (.iface T0 (.pointer (some ⟨b0, 0, none⟩))) ∧ W.cell? ⟨w.heap.size, 7, none⟩ = some (.slice ea d.length ec)) (with_reducible first | exact KS.out _ _ _ _ A2d.out v0d | exact KS.out _ _ _ _ A3.out v06 | exact KS.out _ _ _ _ A4.out v07 | fail)
   ((first
     | (go_at_call 23; (with_reducible refine SD.out.mono ?_); rintro e w6 h6; obtain ⟨le, lec, n6, bi6, bf6, rfl, hA3, v06, v07, hA4, hfin⟩ := STEPD.out e w6 h6; have A3 := Li hA3; have A4 := Li hA4; have FS := Li hfin; clear h6 hA3 hA4 hfin)
     | fail))
 go_wp2_with fail
 go_ret
 exact FS.out
set_option maxHeartbeats 6400000 in
theorem compound_k5 {R : Nat → Nat → Option Value} {B H bm : Nat} (op : Int) (tx : ByteArray) (v : VV) (nm : List ByteArray) (x y : Tr) (c : List Tr) (na sa pa ba ea : Option Addr) (nc sc pc bc ec : Nat) (w : World) (bi bf q : Nat) (okx : OkE x) (oky : OkE y) (hcn : c ≠ []) (HC : ∀ t ∈ c, MSt R B H bm t ∧ OkS t ∧ PlS t) (hxa : ExL R [x, y] (.slice sa 2 sc)) (hsc : StL R c (.slice ba c.length bc)) (ho : Old R B w) (hBH : B ≤ H) (hm : MK w H bm bi bf (q + 1)) (hq : q + ctS (Tr.mk 5 op tx v nm [x, y] [] c []) ≤ 8192) :
   Calls Tryz.prog 38 #[.pointer (some ⟨bm, 0, none⟩), .agg #[.int .i64 5, .int .i64 op, .string tx, .slice na nm.length nc, .slice sa 2 sc, .slice pa 0 pc, .slice ba c.length bc, .slice ea 0 ec]] w (MPost H bm bi bf q (ctS (Tr.mk 5 op tx v nm [x, y] [] c [])) (nmS (Tr.mk 5 op tx v nm [x, y] [] c [])) w) := by
 obtain ⟨W0, hW0⟩ : ∃ W0, W0 = w.alloc (.cells #[.int .i64 5, .int .i64 op, .string tx, .slice na nm.length nc, .slice sa 2 sc, .slice pa 0 pc, .slice ba c.length bc, .slice ea 0 ec] 42) := ⟨_, rfl⟩
 have hb0 : Below w.heap.size w W0 := by rw [hW0]; exact (Below.refl _ _).alloc (Nat.le_refl _) _
 have hl := hm.lts
 have HPOS := Li (pos_any H bm bi bf (q + 1) W0 (hm.below hb0))
 have HB0 := Li hb0
 have HM := Li hm
 have HO := Li ho
 have HQ := Li hq
 have HXA := Li hxa
 have HSC := Li hsc
 have HCC := Li HC
 have HCN := Li hcn
 clear hb0 hm ho hq hxa hsc HC hcn
 subst hW0
 go_enter Tryz.func38, Tryz.ntmps38
 go_wp2_with fail
 refine HPOS.out.mono ?_
 rintro e w1 ⟨ln, rfl, hb1⟩
 clear HPOS
 obtain ⟨pb, hpb⟩ : ∃ pb, w1.heap.size = pb := ⟨_, rfl⟩
 obtain ⟨hst, hmp, he, hop, hz3⟩ := mex_head (L := [.int .i64 5, .int .i64 op, .string tx, .slice na nm.length nc, .slice sa 2 sc, .slice pa 0 pc, .slice ba c.length bc, .slice ea 0 ec]) (by decide) (by decide) (by decide) HM.out HO.out hBH hb1 (Stp.refl _ _ _ _ _) ((HM.out.below HB0.out).below hb1) (Below.refl _ _) (.cells #[.pointer (some ⟨bm, 0, none⟩), .int .i32 ln, .int .i32 1] 63)
 have hpk : Blk (w1.alloc (.cells #[.pointer (some ⟨bm, 0, none⟩), .int .i32 ln, .int .i32 1] 63)) pb 63 [.pointer (some ⟨bm, 0, none⟩), .int .i32 ln, .int .i32 1] := by rw [← hpb]; exact Blk.new w1 _ _
 have d4 := he.cell 4 (by simp)
 have A0 : Hid (Acc H bm bi bf q pb w.heap.size ln 42 [.int .i64 5, .int .i64 op, .string tx, .slice na nm.length nc, .slice sa 2 sc, .slice pa 0 pc, .slice ba c.length bc, .slice ea 0 ec] w 1 bi bf (w1.alloc (.cells #[.pointer (some ⟨bm, 0, none⟩), .int .i32 ln, .int .i32 1] 63))) := Li ⟨hpk, he, hst, hmp, by omega, fr_stmt⟩
 have hct : ctEs [x, y] + ctSs c + 0 + 1 ≤ ctS (Tr.mk 5 op tx v nm [x, y] [] c []) := by rw [ctS_mk]; simp; omega
 have HCT := Li hct
 have EX := Li (mexprs_of (l := [x, y]) (H := H) (bm := bm) (fun t _ => mex_any R B H bm t) (by simp; exact ⟨okx, oky⟩) sa sc (w1.alloc (.cells #[.pointer (some ⟨bm, 0, none⟩), .int .i32 ln, .int .i32 1] 63)) bi bf (q + 1) HXA.out hop hBH hmp (by have := HQ.out; omega) (by simp))
 clear hb1 hst hmp he hop hpk hct
 go_wp2_with fail
 refine EX.out.mono ?_
 rintro e w4 h4
 obtain ⟨la, lc, vs1, c1, bi4, bf4, rfl, hvl1, hA1, _, hR1, hN1, hc1⟩ := A0.out.row h4
 have A1 := Li hA1
 have R1 := Li hR1
 have N1 := Li hN1
 have d6 := hA1.he.cell 6 (by simp)
 have HO4 : Hid (Old R B w4) := Li (HO.out.below ((hA1.hs.below (H := H) (by omega) (by omega) (by omega) (by omega)).mono hBH))
 have BD := Li (mbody_of (l := c) (H := H) (bm := bm) (fun t ht => (HCC.out t ht).1) (fun t ht => (HCC.out t ht).2.1) (fun t ht => (HCC.out t ht).2.2) HCN.out ba bc w4 bi4 bf4 (q + (1 + ctEs [x, y])) HSC.out HO4.out hBH hA1.hm (by have := HQ.out; have := HCT.out; omega))
 clear h4 hA1 hR1 hN1 EX A0 d4
 go_wp2_with fail
 refine BD.out.mono ?_
 rintro e w5 h5
 obtain ⟨lb, lbc, vs2, c2, bi5, bf5, rfl, hvl2, hA2, hG2, hR2, hN2, hc2⟩ := A1.out.row h5
 obtain ⟨rb, rfl, hrb, hrc, hrm, hvlr, hrow⟩ := (R1.out.mono hG2).cells (by simp)
 unfold maxLen at hrm
 have N1' := Li (N1.out.mono hG2)
 obtain ⟨T0, b0, T0', b0', rfl⟩ := N1'.out.two_of hvl1
 have v0c := hrow 0 _ rfl
 have v1c := hrow 1 _ rfl
 clear hrow
 have A2 := Li hA2
 have R1' := Li (R1.out.mono hG2)
 have R2 := Li hR2
 have N2 := Li hN2
 have d0 := hA2.he.cell 0 (by simp)
 clear h5 hA2 hR2 hN2 hG2 BD A1 R1 N1 d6 HO4 hrb hvlr
 have p0 := A2.out.hp.cell 0 (by simp)
 have p1 := A2.out.hp.cell 1 (by simp)
 have p2 := A2.out.hp.cell 2 (by simp)
 have FINP : Hid (MPost H bm bi bf q (ctS (Tr.mk 5 op tx v nm [x, y] [] c [])) (nmS (Tr.mk 5 op tx v nm [x, y] [] c [])) w (.returned (.iface 109 (.pointer (some ⟨w5.heap.size, 0, none⟩)))) (w5.drew.alloc (.cells #[.pointer none, .pointer (some ⟨bm, 0, none⟩), .int .i32 ln, .int .i32 1, .iface T0 (.pointer (some ⟨b0, 0, none⟩)), .iface T0' (.pointer (some ⟨b0', 0, none⟩)), .slice lb c.length lbc] 111))) := Li (by
   have hnn := N1'.out.append N2.out
   exact A2.out.drew.fin (L := [.pointer none, .pointer (some ⟨bm, 0, none⟩), .int .i32 ln, .int .i32 1, .iface T0 (.pointer (some ⟨b0, 0, none⟩)), .iface T0' (.pointer (some ⟨b0', 0, none⟩)), .slice lb c.length lbc]) (N := ctS (Tr.mk 5 op tx v nm [x, y] [] c [])) (NS := nmS (Tr.mk 5 op tx v nm [x, y] [] c [])) (T := 109) (e := 111) (sl := [(4, .x), (5, .x), (6, .s)]) (by simp [tbl]) (.x 4 _ _ _ rfl (.x 5 _ _ _ rfl (.s 6 _ _ _ _ rfl R2.out .nil))) (by have h0 := hnn; simp at h0 ⊢; exact h0) (by have := HCT.out; omega) (by have := HCT.out; omega) (by rw [nmS_mk]; simp))
 go_wp2_with fail
 go_region
 all_goals
   go_wp2_with fail
   go_ret
   exact FINP.out
set_option maxHeartbeats 6400000 in
theorem compound_k6 {R : Nat → Nat → Option Value} {B H bm : Nat} (op : Int) (tx : ByteArray) (v : VV) (nm : List ByteArray) (x : Tr) (c : List Tr) (na sa pa ba ea : Option Addr) (nc sc pc bc ec : Nat) (w : World) (bi bf q : Nat) (okx : OkE x) (hcn : c ≠ []) (HC : ∀ t ∈ c, MSt R B H bm t ∧ OkS t ∧ PlS t) (hxa : ExL R [x] (.slice sa 1 sc)) (hsc : StL R c (.slice ba c.length bc)) (ho : Old R B w) (hBH : B ≤ H) (hm : MK w H bm bi bf (q + 1)) (hq : q + ctS (Tr.mk 6 op tx v nm [x] [] c []) ≤ 8192) :
   Calls Tryz.prog 38 #[.pointer (some ⟨bm, 0, none⟩), .agg #[.int .i64 6, .int .i64 op, .string tx, .slice na nm.length nc, .slice sa 1 sc, .slice pa 0 pc, .slice ba c.length bc, .slice ea 0 ec]] w (MPost H bm bi bf q (ctS (Tr.mk 6 op tx v nm [x] [] c [])) (nmS (Tr.mk 6 op tx v nm [x] [] c [])) w) := by
 obtain ⟨W0, hW0⟩ : ∃ W0, W0 = w.alloc (.cells #[.int .i64 6, .int .i64 op, .string tx, .slice na nm.length nc, .slice sa 1 sc, .slice pa 0 pc, .slice ba c.length bc, .slice ea 0 ec] 42) := ⟨_, rfl⟩
 have hb0 : Below w.heap.size w W0 := by rw [hW0]; exact (Below.refl _ _).alloc (Nat.le_refl _) _
 have hl := hm.lts
 have HPOS := Li (pos_any H bm bi bf (q + 1) W0 (hm.below hb0))
 have HB0 := Li hb0
 have HM := Li hm
 have HO := Li ho
 have HQ := Li hq
 have HXA := Li hxa
 have HSC := Li hsc
 have HCC := Li HC
 have HCN := Li hcn
 clear hb0 hm ho hq hxa hsc HC hcn
 subst hW0
 go_enter Tryz.func38, Tryz.ntmps38
 go_wp2_with fail
 refine HPOS.out.mono ?_
 rintro e w1 ⟨ln, rfl, hb1⟩
 clear HPOS
 obtain ⟨pb, hpb⟩ : ∃ pb, w1.heap.size = pb := ⟨_, rfl⟩
 obtain ⟨hst, hmp, he, hop, hz3⟩ := mex_head (L := [.int .i64 6, .int .i64 op, .string tx, .slice na nm.length nc, .slice sa 1 sc, .slice pa 0 pc, .slice ba c.length bc, .slice ea 0 ec]) (by decide) (by decide) (by decide) HM.out HO.out hBH hb1 (Stp.refl _ _ _ _ _) ((HM.out.below HB0.out).below hb1) (Below.refl _ _) (.cells #[.pointer (some ⟨bm, 0, none⟩), .int .i32 ln, .int .i32 1] 63)
 have hpk : Blk (w1.alloc (.cells #[.pointer (some ⟨bm, 0, none⟩), .int .i32 ln, .int .i32 1] 63)) pb 63 [.pointer (some ⟨bm, 0, none⟩), .int .i32 ln, .int .i32 1] := by rw [← hpb]; exact Blk.new w1 _ _
 have d4 := he.cell 4 (by simp)
 have A0 : Hid (Acc H bm bi bf q pb w.heap.size ln 42 [.int .i64 6, .int .i64 op, .string tx, .slice na nm.length nc, .slice sa 1 sc, .slice pa 0 pc, .slice ba c.length bc, .slice ea 0 ec] w 1 bi bf (w1.alloc (.cells #[.pointer (some ⟨bm, 0, none⟩), .int .i32 ln, .int .i32 1] 63))) := Li ⟨hpk, he, hst, hmp, by omega, fr_stmt⟩
 have hct : ctEs [x] + ctSs c + 0 + 1 ≤ ctS (Tr.mk 6 op tx v nm [x] [] c []) := by rw [ctS_mk]; simp; omega
 have HCT := Li hct
 have EX := Li (mexprs_of (l := [x]) (H := H) (bm := bm) (fun t _ => mex_any R B H bm t) (by simp; exact okx) sa sc (w1.alloc (.cells #[.pointer (some ⟨bm, 0, none⟩), .int .i32 ln, .int .i32 1] 63)) bi bf (q + 1) HXA.out hop hBH hmp (by have := HQ.out; omega) (by simp))
 clear hb1 hst hmp he hop hpk hct
 go_wp2_with fail
 refine EX.out.mono ?_
 rintro e w4 h4
 obtain ⟨la, lc, vs1, c1, bi4, bf4, rfl, hvl1, hA1, _, hR1, hN1, hc1⟩ := A0.out.row h4
 have A1 := Li hA1
 have R1 := Li hR1
 have N1 := Li hN1
 have d6 := hA1.he.cell 6 (by simp)
 have HO4 : Hid (Old R B w4) := Li (HO.out.below ((hA1.hs.below (H := H) (by omega) (by omega) (by omega) (by omega)).mono hBH))
 have BD := Li (mbody_of (l := c) (H := H) (bm := bm) (fun t ht => (HCC.out t ht).1) (fun t ht => (HCC.out t ht).2.1) (fun t ht => (HCC.out t ht).2.2) HCN.out ba bc w4 bi4 bf4 (q + (1 + ctEs [x])) HSC.out HO4.out hBH hA1.hm (by have := HQ.out; have := HCT.out; omega))
 clear h4 hA1 hR1 hN1 EX A0 d4
 go_wp2_with fail
 refine BD.out.mono ?_
 rintro e w5 h5
 obtain ⟨lb, lbc, vs2, c2, bi5, bf5, rfl, hvl2, hA2, hG2, hR2, hN2, hc2⟩ := A1.out.row h5
 obtain ⟨rb, rfl, hrb, hrc, hrm, hvlr, hrow⟩ := (R1.out.mono hG2).cells (by simp)
 unfold maxLen at hrm
 have N1' := Li (N1.out.mono hG2)
 obtain ⟨T0, b0, rfl⟩ := N1'.out.one_of hvl1
 have v0c := hrow 0 _ rfl
 clear hrow
 have A2 := Li hA2
 have R1' := Li (R1.out.mono hG2)
 have R2 := Li hR2
 have N2 := Li hN2
 have d0 := hA2.he.cell 0 (by simp)
 clear h5 hA2 hR2 hN2 hG2 BD A1 R1 N1 d6 HO4 hrb hvlr
 have p0 := A2.out.hp.cell 0 (by simp)
 have p1 := A2.out.hp.cell 1 (by simp)
 have p2 := A2.out.hp.cell 2 (by simp)
 have FINP : Hid (MPost H bm bi bf q (ctS (Tr.mk 6 op tx v nm [x] [] c [])) (nmS (Tr.mk 6 op tx v nm [x] [] c [])) w (.returned (.iface 112 (.pointer (some ⟨w5.heap.size, 0, none⟩)))) (w5.drew.alloc (.cells #[.pointer none, .pointer (some ⟨bm, 0, none⟩), .int .i32 ln, .int .i32 1, .iface T0 (.pointer (some ⟨b0, 0, none⟩)), .slice lb c.length lbc] 114))) := Li (by
   have hnn := N1'.out.append N2.out
   exact A2.out.drew.fin (L := [.pointer none, .pointer (some ⟨bm, 0, none⟩), .int .i32 ln, .int .i32 1, .iface T0 (.pointer (some ⟨b0, 0, none⟩)), .slice lb c.length lbc]) (N := ctS (Tr.mk 6 op tx v nm [x] [] c [])) (NS := nmS (Tr.mk 6 op tx v nm [x] [] c [])) (T := 112) (e := 114) (sl := [(4, .x), (5, .s)]) (by simp [tbl]) (.x 4 _ _ _ rfl (.s 5 _ _ _ _ rfl R2.out .nil)) (by have h0 := hnn; simp at h0 ⊢; exact h0) (by have := HCT.out; omega) (by have := HCT.out; omega) (by rw [nmS_mk]; simp))
 go_wp2_with fail
 go_region
 all_goals
   go_wp2_with fail
   go_ret
   exact FINP.out
end Go.Proofs.YtoojgjhfmmohbaaGreat
