/- maker.entry (printed by genwkent.py). maker.slice (printed by genwkslice.py). A region that draws its order, whose last operation stores what the region itself reads: the condition on the world is asked behind every operation but that one. No function of the program. -/
import Derived.Test.YtoojgjhfmmohbaaGreatMCl
import Derived.Test.YtoojgjhfmmohbaaGreatMBase
namespace Go.Proofs.YtoojgjhfmmohbaaGreat
open Go.RowKit Dig
set_option linter.unusedVariables false
set_option linter.unusedSimpArgs false
set_option maxRecDepth 100000
def EntPost (H bm bi bf q n : Nat) (ns : List ByteArray) (w : World) (e : Ending) (w' : World) : Prop :=
 ∃ b c bi' bf', e = .returned (.pointer (some ⟨b, 0, none⟩)) ∧ Stp w.heap.size w w' bm bi bf bi' bf' ∧ MK w' H bm bi' bf' (q + n) ∧ Nd (Gx w' w.heap.size [bi', bf']) (.iface 134 (.pointer (some ⟨b, 0, none⟩))) ns c ∧ c + 1 ≤ 3 * n
set_option maxHeartbeats 6400000 in
theorem entry_any {R : Nat → Nat → Option Value} {B H bm : Nat} {x y : Tr} (hx : MEx R B H bm x) (hy : MEx R B H bm y) (okx : OkE x) (oky : OkE y) (csx csy : List Value) (w : World) (bi bf q : Nat) (vx : ExV R x csx) (vy : ExV R y csy) (ho : Old R B w) (hBH : B ≤ H) (hm : MK w H bm bi bf q) (hq : q + (ctE x + ctE y) ≤ 8192) :
   Calls Tryz.prog 51 #[.pointer (some ⟨bm, 0, none⟩), .agg csx.toArray, .agg csy.toArray] w (EntPost H bm bi bf q (ctE x + ctE y) (nmE x ++ nmE y) w) := by
 obtain ⟨kd1, op1, tx1, v1, nm1, ca1, cb1, cc1, cd1, ma1, mc1, ka1, kc1, sa1, sc1, pa1, pc1, et1, ecx, _⟩ := vx.form
 obtain ⟨kd', op', tx', v', nm', ca', cb', cc', cd', ma', mc', ka', kc', sa', sc', pa', pc', et', ecy, _⟩ := vy.form
 obtain ⟨W0, hW0⟩ : ∃ W0, W0 = ((w.alloc (.cells #[.int .i64 kd1, .int .i64 op1, .string tx1, .int .i64 v1.kd, .bool v1.nb, .slice ma1 v1.ms.length mc1, .int .u64 v1.ub, .string v1.tx, .slice ka1 v1.kn kc1, .slice sa1 ca1.length sc1, .slice pa1 cb1.length pc1] 75)).alloc (.cells #[.int .i64 kd', .int .i64 op', .string tx', .int .i64 v'.kd, .bool v'.nb, .slice ma' v'.ms.length mc', .int .u64 v'.ub, .string v'.tx, .slice ka' v'.kn kc', .slice sa' ca'.length sc', .slice pa' cb'.length pc'] 75)) := ⟨_, rfl⟩
 have hb0 : Below w.heap.size w W0 := by rw [hW0]; exact ((Below.refl _ _).alloc (Nat.le_refl _) _).alloc (by simp) _
 have hz0 : W0.heap.size = w.heap.size + 2 := by rw [hW0]; simp
 have E0 : Blk W0 (w.heap.size + 1) 75 [.int .i64 kd', .int .i64 op', .string tx', .int .i64 v'.kd, .bool v'.nb, .slice ma' v'.ms.length mc', .int .u64 v'.ub, .string v'.tx, .slice ka' v'.kn kc', .slice sa' ca'.length sc', .slice pa' cb'.length pc'] := by
   rw [hW0]
   have := Blk.new (w.alloc (.cells #[.int .i64 kd1, .int .i64 op1, .string tx1, .int .i64 v1.kd, .bool v1.nb, .slice ma1 v1.ms.length mc1, .int .u64 v1.ub, .string v1.tx, .slice ka1 v1.kn kc1, .slice sa1 ca1.length sc1, .slice pa1 cb1.length pc1] 75)) 75 [.int .i64 kd', .int .i64 op', .string tx', .int .i64 v'.kd, .bool v'.nb, .slice ma' v'.ms.length mc', .int .u64 v'.ub, .string v'.tx, .slice ka' v'.kn kc', .slice sa' ca'.length sc', .slice pa' cb'.length pc']
   simpa using this
 have hm0 := hm.below hb0
 have hO0 : Old R B W0 := ho.below (hb0.mono (by have := hm.lts; omega))
 have MX1 := Li (hx _ W0 bi bf q vx hO0 hBH hm0 (by omega) okx)
 have EN := Li (hm0.ne E0 (by decide) (by decide) (by decide))
 have HO0 := Li hO0
 have HB0 := Li hb0
 have HE0 := Li E0
 have HM := Li hm
 have HY := Li hy
 have VY := Li vy
 have HZ0 := Li hz0
 clear hO0 hb0 E0 hm hm0 ho vx vy hx hy et1 et' hz0
 subst ecx ecy hW0
 go_enter Tryz.func51, Tryz.ntmps51
 go_wp2_with fail
 refine MX1.out.mono ?_
 rintro e wa ⟨T1, b1, n1, bia, bfa, rfl, hsa1, hma, hna, hca⟩
 clear MX1
 have HEA : Hid (Blk wa.drew (w.heap.size + 1) 75 [.int .i64 kd', .int .i64 op', .string tx', .int .i64 v'.kd, .bool v'.nb, .slice ma' v'.ms.length mc', .int .u64 v'.ub, .string v'.tx, .slice ka' v'.kn kc', .slice sa' ca'.length sc', .slice pa' cb'.length pc']) := Li (hsa1.blk HE0.out HE0.out.lt EN.out.1 EN.out.2.1 EN.out.2.2).1
 have HMA : Hid (MK wa.drew H bm bia bfa (q + ctE x)) := Li hma
 have ENA := Li (HMA.out.ne HEA.out (by decide) (by decide) (by decide))
 have HSA : Hid (Stp ((w.alloc (.cells #[.int .i64 kd1, .int .i64 op1, .string tx1, .int .i64 v1.kd, .bool v1.nb, .slice ma1 v1.ms.length mc1, .int .u64 v1.ub, .string v1.tx, .slice ka1 v1.kn kc1, .slice sa1 ca1.length sc1, .slice pa1 cb1.length pc1] 75)).alloc (.cells #[.int .i64 kd', .int .i64 op', .string tx', .int .i64 v'.kd, .bool v'.nb, .slice ma' v'.ms.length mc', .int .u64 v'.ub, .string v'.tx, .slice ka' v'.kn kc', .slice sa' ca'.length sc', .slice pa' cb'.length pc'] 75)).heap.size ((w.alloc (.cells #[.int .i64 kd1, .int .i64 op1, .string tx1, .int .i64 v1.kd, .bool v1.nb, .slice ma1 v1.ms.length mc1, .int .u64 v1.ub, .string v1.tx, .slice ka1 v1.kn kc1, .slice sa1 ca1.length sc1, .slice pa1 cb1.length pc1] 75)).alloc (.cells #[.int .i64 kd', .int .i64 op', .string tx', .int .i64 v'.kd, .bool v'.nb, .slice ma' v'.ms.length mc', .int .u64 v'.ub, .string v'.tx, .slice ka' v'.kn kc', .slice sa' ca'.length sc', .slice pa' cb'.length pc'] 75)) wa.drew bm bi bf bia bfa) := Li hsa1.drew
 have HNA : Hid (Nd (Gx wa.drew ((w.alloc (.cells #[.int .i64 kd1, .int .i64 op1, .string tx1, .int .i64 v1.kd, .bool v1.nb, .slice ma1 v1.ms.length mc1, .int .u64 v1.ub, .string v1.tx, .slice ka1 v1.kn kc1, .slice sa1 ca1.length sc1, .slice pa1 cb1.length pc1] 75)).alloc (.cells #[.int .i64 kd', .int .i64 op', .string tx', .int .i64 v'.kd, .bool v'.nb, .slice ma' v'.ms.length mc', .int .u64 v'.ub, .string v'.tx, .slice ka' v'.kn kc', .slice sa' ca'.length sc', .slice pa' cb'.length pc'] 75)).heap.size [bia, bfa]) (.iface T1 (.pointer (some ⟨b1, 0, none⟩))) (nmE x) n1) := Li hna
 have HOA : Hid (Old R B wa.drew) := Li (show Old R B wa from HO0.out.below ((hsa1.below (H := H) (by have := HM.out.lts; omega) (by have := HM.out.lts; omega) (by have := HM.out.lts; omega) (by have := HM.out.lts; have := HB0.out.size; omega)).mono hBH))
 have HCA := Li hca
 have HPOS := Li (pos_any H bm bia bfa (q + ctE x) wa.drew HMA.out)
 have KS : Hid (∀ W, Blk W (w.heap.size + 1) 75 [.int .i64 kd', .int .i64 op', .string tx', .int .i64 v'.kd, .bool v'.nb, .slice ma' v'.ms.length mc', .int .u64 v'.ub, .string v'.tx, .slice ka' v'.kn kc', .slice sa' ca'.length sc', .slice pa' cb'.length pc'] → W.cell? ⟨(w.heap.size + 1), 0, none⟩ = some (.int .i64 kd') ∧ W.cell? ⟨(w.heap.size + 1), 1, none⟩ = some (.int .i64 op') ∧ W.cell? ⟨(w.heap.size + 1), 2, none⟩ = some (.string tx') ∧ W.cell? ⟨(w.heap.size + 1), 3, none⟩ = some (.int .i64 v'.kd) ∧ W.cell? ⟨(w.heap.size + 1), 4, none⟩ = some (.bool v'.nb) ∧ W.cell? ⟨(w.heap.size + 1), 5, none⟩ = some (.slice ma' v'.ms.length mc') ∧ W.cell? ⟨(w.heap.size + 1), 6, none⟩ = some (.int .u64 v'.ub) ∧ W.cell? ⟨(w.heap.size + 1), 7, none⟩ = some (.string v'.tx) ∧ W.cell? ⟨(w.heap.size + 1), 8, none⟩ = some (.slice ka' v'.kn kc') ∧ W.cell? ⟨(w.heap.size + 1), 9, none⟩ = some (.slice sa' ca'.length sc') ∧ W.cell? ⟨(w.heap.size + 1), 10, none⟩ = some (.slice pa' cb'.length pc')) := Li (fun W h1 => ⟨h1.cell 0 (by simp), h1.cell 1 (by simp), h1.cell 2 (by simp), h1.cell 3 (by simp), h1.cell 4 (by simp), h1.cell 5 (by simp), h1.cell 6 (by simp), h1.cell 7 (by simp), h1.cell 8 (by simp), h1.cell 9 (by simp), h1.cell 10 (by simp)⟩)
 have STEPD : Hid (∀ (w1 : World) (ln : Int), Below wa.drew.heap.size wa.drew w1 → Blk w1 (w.heap.size + 1) 75 [.int .i64 kd', .int .i64 op', .string tx', .int .i64 v'.kd, .bool v'.nb, .slice ma' v'.ms.length mc', .int .u64 v'.ub, .string v'.tx, .slice ka' v'.kn kc', .slice sa' ca'.length sc', .slice pa' cb'.length pc'] ∧ Calls Tryz.prog 45 #[.pointer (some ⟨bm, 0, none⟩), .agg #[.int .i64 kd', .int .i64 op', .string tx', .int .i64 v'.kd, .bool v'.nb, .slice ma' v'.ms.length mc', .int .u64 v'.ub, .string v'.tx, .slice ka' v'.kn kc', .slice sa' ca'.length sc', .slice pa' cb'.length pc']] w1 (MPost H bm bia bfa (q + ctE x) (ctE y) (nmE y) w1) ∧
     ∀ (w2 : World) (Tx bx cx bi2 bf2 : Nat), Stp w1.heap.size w1 w2 bm bia bfa bi2 bf2 → MK w2 H bm bi2 bf2 (q + ctE x + ctE y) → Nd (Gx w2 w1.heap.size [bi2, bf2]) (.iface Tx (.pointer (some ⟨bx, 0, none⟩))) (nmE y) cx → cx + 1 ≤ 3 * ctE y →
     Blk w2 (w.heap.size + 1) 75 [.int .i64 kd', .int .i64 op', .string tx', .int .i64 v'.kd, .bool v'.nb, .slice ma' v'.ms.length mc', .int .u64 v'.ub, .string v'.tx, .slice ka' v'.kn kc', .slice sa' ca'.length sc', .slice pa' cb'.length pc'] ∧ EntPost H bm bi bf q (ctE x + ctE y) (nmE x ++ nmE y) w (.returned (.pointer (some ⟨w2.heap.size, 0, none⟩))) (w2.alloc (.cells #[.pointer none, .iface T1 (.pointer (some ⟨b1, 0, none⟩)), .pointer (some ⟨bm, 0, none⟩), .int .i32 ln, .int .i32 1, .iface Tx (.pointer (some ⟨bx, 0, none⟩))] 136))) := Li (fun w1 ln hb1 => by
   have hm1 := HMA.out.below hb1
   have he1 := HEA.out.below hb1 HEA.out.lt
   have hl0 := HM.out.lts
   have hl1 := HMA.out.lts
   have hz0 := HB0.out.size
   have hza := HSA.out.size
   have hz1 := hb1.size
   have hO1 : Old R B w1 := HOA.out.below (hb1.mono (by omega))
   refine ⟨he1, HY.out _ w1 bia bfa (q + ctE x) VY.out hO1 hBH hm1 (by omega) oky, fun w2 Tx bx cx bi2 bf2 hs2 hm2 hn2 hcx => ?_⟩
   have hz2 := hs2.size
   have hl2 := hm2.lts
   have hca := HCA.out
   have e1 := hm1.ne he1 (by decide) (by decide) (by decide)
   have hs3 : Stp wa.drew.heap.size wa.drew w2 bm bia bfa bi2 bf2 := (Stp.of_below hb1).trans (hs2.mono hz1)
   have hbu : Below w2.heap.size w2 (w2.alloc (.cells #[.pointer none, .iface T1 (.pointer (some ⟨b1, 0, none⟩)), .pointer (some ⟨bm, 0, none⟩), .int .i32 ln, .int .i32 1, .iface Tx (.pointer (some ⟨bx, 0, none⟩))] 136)) := (Below.refl _ _).alloc (Nat.le_refl _) _
   have hxn : Blk (w2.alloc (.cells #[.pointer none, .iface T1 (.pointer (some ⟨b1, 0, none⟩)), .pointer (some ⟨bm, 0, none⟩), .int .i32 ln, .int .i32 1, .iface Tx (.pointer (some ⟨bx, 0, none⟩))] 136)) w2.heap.size 136 [.pointer none, .iface T1 (.pointer (some ⟨b1, 0, none⟩)), .pointer (some ⟨bm, 0, none⟩), .int .i32 ln, .int .i32 1, .iface Tx (.pointer (some ⟨bx, 0, none⟩))] := Blk.new w2 _ _
   have zz : w.heap.size ≤ w2.heap.size := by omega
   refine ⟨(hs2.blk he1 he1.lt e1.1 e1.2.1 e1.2.2).1, w2.heap.size, n1 + cx + 1, bi2, bf2, rfl, ?_, ?_, ?_, by omega⟩
   · exact (((Stp.of_below HB0.out).trans (HSA.out.mono hz0)).trans (hs3.mono (by omega))).trans (Stp.of_below (hbu.mono zz))
   · have := hm2.below hbu
     rwa [Nat.add_assoc] at this
   · have hnx := ((HNA.out.mono (Gx.stp hs3 (by omega) [])).mono (Gx.below hbu)).mono (Gx.le hz0 fun b _ _ h3 => ⟨h3, rfl⟩)
     have hny := (hn2.mono (Gx.below hbu)).mono (Gx.le (lo' := w.heap.size) (w' := w2.alloc (.cells #[.pointer none, .iface T1 (.pointer (some ⟨b1, 0, none⟩)), .pointer (some ⟨bm, 0, none⟩), .int .i32 ln, .int .i32 1, .iface Tx (.pointer (some ⟨bx, 0, none⟩))] 136)) (ex' := [bi2, bf2]) (by omega) fun b _ _ h3 => ⟨h3, rfl⟩)
     exact .node _ 136 [(1, .x), (5, .x)] (by simp [tbl]) _ _ (Gx.of hxn zz (by simp; omega)) _ (.x 1 _ _ _ rfl (.x 5 _ _ _ rfl .nil)) _ _ ((Nds.one hnx).append (Nds.one hny)))
 clear hsa1 hma hna hca
 go_upto_region 2 with fail
 go_region_held3 (fun W => W.cell? ⟨(w.heap.size + 1), 0, none⟩ = some (.int .i64 kd') ∧ W.cell? ⟨(w.heap.size + 1), 1, none⟩ = some (.int .i64 op') ∧ W.cell? ⟨(w.heap.size + 1), 2, none⟩ = some (.string tx') ∧ W.cell? ⟨(w.heap.size + 1), 3, none⟩ = some (.int .i64 v'.kd) ∧ W.cell? ⟨(w.heap.size + 1), 4, none⟩ = some (.bool v'.nb) ∧ W.cell? ⟨(w.heap.size + 1), 5, none⟩ = some (.slice ma' v'.ms.length mc') ∧ W.cell? ⟨(w.heap.size + 1), 6, none⟩ = some (.int .u64 v'.ub) ∧ W.cell? ⟨(w.heap.size + 1), 7, none⟩ = some (.string v'.tx) ∧ W.cell? ⟨(w.heap.size + 1), 8, none⟩ = some (.slice ka' v'.kn kc') ∧ W.cell? ⟨(w.heap.size + 1), 9, none⟩ = some (.slice sa' ca'.length sc') ∧ W.cell? ⟨(w.heap.size + 1), 10, none⟩ = some (.slice pa' cb'.length pc')) (with_reducible first | exact KS.out _ HEA.out | exact KS.out _ HE1.out | exact KS.out _ HE2.out | exact KS.out _ (HE2.out.alloc _))
   ((first
     | (go_at_call 35; (with_reducible refine HPOS.out.mono ?_); rintro e w1 ⟨ln, rfl, hb1⟩; obtain ⟨he1, mx, stp⟩ := STEPD.out w1 ln hb1; have HE1 := Li he1; have MX := Li mx; have STP := Li stp; clear hb1 he1 mx stp)
     | (go_at_call 45; (with_reducible refine MX.out.mono ?_); rintro e w2 ⟨Tx, bx, cx, bi2, bf2, rfl, hs1, hm1, hn1, hcx⟩; obtain ⟨he2, fs⟩ := STP.out w2 Tx bx cx bi2 bf2 hs1 hm1 hn1 hcx; have HE2 := Li he2; have FS := Li fs; clear hs1 hm1 hn1 hcx he2 fs)
     | fail))
 go_wp2_with fail
 go_ret
 exact FS.out
def SlO (G : Nat → Option Obj) (t : Tr) (v : Value) (c : Nat) : Prop := (v = .nilIface ∧ nmE t = [] ∧ c = 0) ∨ (Nd G v (nmE t) c ∧ c ≤ 3 * ctE t)
theorem SlO.mono {G G' : Nat → Option Obj} {t : Tr} {v : Value} {c : Nat} (h : SlO G t v c) (hG : GLe G G') : SlO G' t v c := by
 rcases h with h | ⟨h1, h2⟩
 · exact .inl h
 · exact .inr ⟨h1.mono hG, h2⟩
theorem SlO.le {G : Nat → Option Obj} {t : Tr} {v : Value} {c : Nat} (h : SlO G t v c) : c ≤ 3 * ctE t := by
 rcases h with ⟨_, _, h⟩ | ⟨_, h⟩ <;> omega
theorem SlO.ch {G : Nat → Option Obj} {t : Tr} {v : Value} {c cc i : Nat} {L ch : List Value} {sl : List (Nat × Kd)} {ns : List ByteArray} (h : SlO G t v c) (hL : L[i]? = some v) (hc : Ch G L sl ch) (hn : Nds G ch ns cc) : ∃ ch', Ch G L ((i, .o) :: sl) ch' ∧ Nds G ch' (nmE t ++ ns) (c + cc) := by
 rcases h with ⟨rfl, e, rfl⟩ | ⟨h, _⟩
 · exact ⟨ch, .none i _ _ hL hc, by rw [e, List.nil_append, Nat.zero_add]; exact hn⟩
 · exact ⟨v :: ch, .some i _ _ _ hL hc, .cons _ _ _ _ _ _ h hn⟩
structure SlAt (H bm bi bf q xb ab eb : Nat) (ln : Int) (X1 : Value) (nx : Nat) (EE : List Value) (w : World) (x lo hi st : Tr) (k m : Nat) (g0 g1 g2 : Value) (c0 c1 c2 bi' bf' : Nat) (wr : World) : Prop where
 hx : Blk wr xb 139 [.pointer none, X1, .pointer (some ⟨bm, 0, none⟩), .int .i32 ln, .int .i32 1, g0, g1, g2, .pointer (some ⟨bm, 0, none⟩), .int .i32 ln, .int .i32 1]
 ha : Blk wr ab 207 [.pointer (some ⟨xb, 5, none⟩), .pointer (some ⟨xb, 6, none⟩), .pointer (some ⟨xb, 7, none⟩)]
 he : Blk wr eb 75 EE
 hs : Stp w.heap.size w wr bm bi bf bi' bf'
 hm : MK wr H bm bi' bf' (q + m)
 hn : Nd (Gx wr w.heap.size [bi', bf', xb]) X1 (nmE x) nx
 h0 : 0 < k → SlO (Gx wr w.heap.size [bi', bf', xb]) lo g0 c0
 h1 : 1 < k → SlO (Gx wr w.heap.size [bi', bf', xb]) hi g1 c1
 h2 : 2 < k → SlO (Gx wr w.heap.size [bi', bf', xb]) st g2 c2
 e0 : k ≤ 0 → g0 = .nilIface
 e1 : k ≤ 1 → g1 = .nilIface
 e2 : k ≤ 2 → g2 = .nilIface
 hc : nx + 1 ≤ 3 * ctE x
 hb : w.heap.size ≤ xb
 hl : bm < w.heap.size
section
variable {H bm bi bf q xb ab eb : Nat} {ln : Int} {X1 : Value} {nx : Nat} {EE : List Value} {w : World} {x lo hi st : Tr} {k m : Nat} {g0 g1 g2 : Value} {c0 c1 c2 bi' bf' : Nat} {wr : World}
theorem SlAt.keep (h : SlAt H bm bi bf q xb ab eb ln X1 nx EE w x lo hi st k m g0 g1 g2 c0 c1 c2 bi' bf' wr) {w2 : World} {m' bi2 bf2 : Nat} (hs : Stp wr.heap.size wr w2 bm bi' bf' bi2 bf2) (hm : MK w2 H bm bi2 bf2 (q + m')) : SlAt H bm bi bf q xb ab eb ln X1 nx EE w x lo hi st k m' g0 g1 g2 c0 c1 c2 bi2 bf2 w2 := by
 obtain ⟨n1, n2, n3⟩ := h.hm.ne h.hx (by decide) (by decide) (by decide)
 obtain ⟨a1, a2, a3⟩ := h.hm.ne h.ha (by decide) (by decide) (by decide)
 obtain ⟨b1, b2, b3⟩ := h.hm.ne h.he (by decide) (by decide) (by decide)
 have hg := Gx.stp hs h.hl [xb]
 exact ⟨(hs.blk h.hx h.hx.lt n1 n2 n3).1, (hs.blk h.ha h.ha.lt a1 a2 a3).1, (hs.blk h.he h.he.lt b1 b2 b3).1, h.hs.trans (hs.mono h.hs.size), hm, h.hn.mono hg, fun l => (h.h0 l).mono hg, fun l => (h.h1 l).mono hg, fun l => (h.h2 l).mono hg, h.e0, h.e1, h.e2, h.hc, h.hb, h.hl⟩
theorem SlAt.skip0 (h : SlAt H bm bi bf q xb ab eb ln X1 nx EE w x lo hi st 0 m g0 g1 g2 c0 c1 c2 bi' bf' wr) (hn : nmE lo = []) : SlAt H bm bi bf q xb ab eb ln X1 nx EE w x lo hi st 1 m g0 g1 g2 0 c1 c2 bi' bf' wr :=
 ⟨h.hx, h.ha, h.he, h.hs, h.hm, h.hn, fun l => .inl ⟨h.e0 (by omega), hn, rfl⟩, fun l => h.h1 (by omega), fun l => h.h2 (by omega), fun l => h.e0 (by omega), fun l => h.e1 (by omega), fun l => h.e2 (by omega), h.hc, h.hb, h.hl⟩
theorem SlAt.put0 (h : SlAt H bm bi bf q xb ab eb ln X1 nx EE w x lo hi st 0 m g0 g1 g2 c0 c1 c2 bi' bf' wr) {v : Value} {c : Nat} (hv : SlO (Gx wr w.heap.size [bi', bf', xb]) lo v c) : SlAt H bm bi bf q xb ab eb ln X1 nx EE w x lo hi st 1 m v g1 g2 c c1 c2 bi' bf' (wr.setCell ⟨xb, 5, none⟩ v) := by
 obtain ⟨n1, n2, n3⟩ := h.hm.ne h.hx (by decide) (by decide) (by decide)
 have na : ab ≠ xb := by rintro rfl; exact absurd (h.hx.inj h.ha).1 (by decide)
 have ne : eb ≠ xb := by rintro rfl; exact absurd (h.hx.inj h.he).1 (by decide)
 have hg : GLe (Gx wr w.heap.size [bi', bf', xb]) (Gx (wr.setCell ⟨xb, 5, none⟩ v) w.heap.size [bi', bf', xb]) := Gx.le (Nat.le_refl _) fun b _ _ h3 => ⟨h3, Below.heap_setCell wr _ v b (by simp at h3; show b ≠ xb; omega)⟩
 exact ⟨h.hx.set 5 v, h.ha.far na v, h.he.far ne v, h.hs.set_far h.hb, h.hm.set_far n1 n2 n3, h.hn.mono hg, fun _ => hv.mono hg, fun l => (h.h1 (by omega)).mono hg, fun l => (h.h2 (by omega)).mono hg, fun l => absurd l (by omega), fun l => h.e1 (by omega), fun l => h.e2 (by omega), h.hc, h.hb, h.hl⟩
theorem SlAt.skip1 (h : SlAt H bm bi bf q xb ab eb ln X1 nx EE w x lo hi st 1 m g0 g1 g2 c0 c1 c2 bi' bf' wr) (hn : nmE hi = []) : SlAt H bm bi bf q xb ab eb ln X1 nx EE w x lo hi st 2 m g0 g1 g2 c0 0 c2 bi' bf' wr :=
 ⟨h.hx, h.ha, h.he, h.hs, h.hm, h.hn, fun l => h.h0 (by omega), fun l => .inl ⟨h.e1 (by omega), hn, rfl⟩, fun l => h.h2 (by omega), fun l => h.e0 (by omega), fun l => h.e1 (by omega), fun l => h.e2 (by omega), h.hc, h.hb, h.hl⟩
theorem SlAt.put1 (h : SlAt H bm bi bf q xb ab eb ln X1 nx EE w x lo hi st 1 m g0 g1 g2 c0 c1 c2 bi' bf' wr) {v : Value} {c : Nat} (hv : SlO (Gx wr w.heap.size [bi', bf', xb]) hi v c) : SlAt H bm bi bf q xb ab eb ln X1 nx EE w x lo hi st 2 m g0 v g2 c0 c c2 bi' bf' (wr.setCell ⟨xb, 6, none⟩ v) := by
 obtain ⟨n1, n2, n3⟩ := h.hm.ne h.hx (by decide) (by decide) (by decide)
 have na : ab ≠ xb := by rintro rfl; exact absurd (h.hx.inj h.ha).1 (by decide)
 have ne : eb ≠ xb := by rintro rfl; exact absurd (h.hx.inj h.he).1 (by decide)
 have hg : GLe (Gx wr w.heap.size [bi', bf', xb]) (Gx (wr.setCell ⟨xb, 6, none⟩ v) w.heap.size [bi', bf', xb]) := Gx.le (Nat.le_refl _) fun b _ _ h3 => ⟨h3, Below.heap_setCell wr _ v b (by simp at h3; show b ≠ xb; omega)⟩
 exact ⟨h.hx.set 6 v, h.ha.far na v, h.he.far ne v, h.hs.set_far h.hb, h.hm.set_far n1 n2 n3, h.hn.mono hg, fun l => (h.h0 (by omega)).mono hg, fun _ => hv.mono hg, fun l => (h.h2 (by omega)).mono hg, fun l => h.e0 (by omega), fun l => absurd l (by omega), fun l => h.e2 (by omega), h.hc, h.hb, h.hl⟩
theorem SlAt.skip2 (h : SlAt H bm bi bf q xb ab eb ln X1 nx EE w x lo hi st 2 m g0 g1 g2 c0 c1 c2 bi' bf' wr) (hn : nmE st = []) : SlAt H bm bi bf q xb ab eb ln X1 nx EE w x lo hi st 3 m g0 g1 g2 c0 c1 0 bi' bf' wr :=
 ⟨h.hx, h.ha, h.he, h.hs, h.hm, h.hn, fun l => h.h0 (by omega), fun l => h.h1 (by omega), fun l => .inl ⟨h.e2 (by omega), hn, rfl⟩, fun l => h.e0 (by omega), fun l => h.e1 (by omega), fun l => h.e2 (by omega), h.hc, h.hb, h.hl⟩
theorem SlAt.put2 (h : SlAt H bm bi bf q xb ab eb ln X1 nx EE w x lo hi st 2 m g0 g1 g2 c0 c1 c2 bi' bf' wr) {v : Value} {c : Nat} (hv : SlO (Gx wr w.heap.size [bi', bf', xb]) st v c) : SlAt H bm bi bf q xb ab eb ln X1 nx EE w x lo hi st 3 m g0 g1 v c0 c1 c bi' bf' (wr.setCell ⟨xb, 7, none⟩ v) := by
 obtain ⟨n1, n2, n3⟩ := h.hm.ne h.hx (by decide) (by decide) (by decide)
 have na : ab ≠ xb := by rintro rfl; exact absurd (h.hx.inj h.ha).1 (by decide)
 have ne : eb ≠ xb := by rintro rfl; exact absurd (h.hx.inj h.he).1 (by decide)
 have hg : GLe (Gx wr w.heap.size [bi', bf', xb]) (Gx (wr.setCell ⟨xb, 7, none⟩ v) w.heap.size [bi', bf', xb]) := Gx.le (Nat.le_refl _) fun b _ _ h3 => ⟨h3, Below.heap_setCell wr _ v b (by simp at h3; show b ≠ xb; omega)⟩
 exact ⟨h.hx.set 7 v, h.ha.far na v, h.he.far ne v, h.hs.set_far h.hb, h.hm.set_far n1 n2 n3, h.hn.mono hg, fun l => (h.h0 (by omega)).mono hg, fun l => (h.h1 (by omega)).mono hg, fun _ => hv.mono hg, fun l => h.e0 (by omega), fun l => h.e1 (by omega), fun l => absurd l (by omega), h.hc, h.hb, h.hl⟩
theorem SlAt.fin (h : SlAt H bm bi bf q xb ab eb ln X1 nx EE w x lo hi st 3 m g0 g1 g2 c0 c1 c2 bi' bf' wr) {n : Nat} {ns : List ByteArray} (hn : n = 1 + (ctE x + (ctE lo + (ctE hi + ctE st)))) (hm : m ≤ n) (hns : ns = nmE x ++ (nmE lo ++ (nmE hi ++ nmE st))) : MPost H bm bi bf q n ns w (.returned (.iface 137 (.pointer (some ⟨xb, 0, none⟩)))) wr := by
 obtain ⟨n1, n2, n3⟩ := h.hm.ne h.hx (by decide) (by decide) (by decide)
 have l0 := (h.h0 (by decide)).le
 have l1 := (h.h1 (by decide)).le
 have l2 := (h.h2 (by decide)).le
 have hg : GLe (Gx wr w.heap.size [bi', bf', xb]) (Gx wr w.heap.size [bi', bf']) := Gx.le (Nat.le_refl _) fun b _ _ h3 => ⟨by simp at h3 ⊢; omega, rfl⟩
 obtain ⟨ch2, p2, q2⟩ := ((h.h2 (by decide)).mono hg).ch (i := 7) (L := [.pointer none, X1, .pointer (some ⟨bm, 0, none⟩), .int .i32 ln, .int .i32 1, g0, g1, g2, .pointer (some ⟨bm, 0, none⟩), .int .i32 ln, .int .i32 1]) rfl .nil .nil
 obtain ⟨ch1, p1, q1⟩ := ((h.h1 (by decide)).mono hg).ch (i := 6) (L := [.pointer none, X1, .pointer (some ⟨bm, 0, none⟩), .int .i32 ln, .int .i32 1, g0, g1, g2, .pointer (some ⟨bm, 0, none⟩), .int .i32 ln, .int .i32 1]) rfl p2 q2
 obtain ⟨ch0, p0, q0⟩ := ((h.h0 (by decide)).mono hg).ch (i := 5) (L := [.pointer none, X1, .pointer (some ⟨bm, 0, none⟩), .int .i32 ln, .int .i32 1, g0, g1, g2, .pointer (some ⟨bm, 0, none⟩), .int .i32 ln, .int .i32 1]) rfl p1 q1
 have hc := h.hc
 have nd := Nd.node (G := Gx wr w.heap.size [bi', bf']) 137 139 [(1, .x), (5, .o), (6, .o), (7, .o)] (by simp [tbl]) xb _ (Gx.of h.hx h.hb (by simp; omega)) _ (.x 1 _ _ _ rfl p0) _ _ (.cons _ _ _ _ _ _ (h.hn.mono hg) q0)
 simp only [List.append_nil] at nd
 refine ⟨_, xb, _, bi', bf', rfl, h.hs, h.hm.mono (by omega), by rw [hns]; exact nd, by omega⟩
end
def SlRel (H bm bi bf q xb ab eb : Nat) (ln : Int) (X1 : Value) (nx : Nat) (EE : List Value) (w : World) (x lo hi st : Tr) (i : Value) (wr : World) : Prop :=
 ∃ (k m : Nat) (g0 g1 g2 : Value) (c0 c1 c2 bi' bf' : Nat), k ≤ 3 ∧ i = .int .i64 (k : Int) ∧ Hid (m = ctE x + ctEs ([lo, hi, st].take k)) ∧ Hid (SlAt H bm bi bf q xb ab eb ln X1 nx EE w x lo hi st k m g0 g1 g2 c0 c1 c2 bi' bf' wr)
theorem OkE.kd_ne {kd op : Int} {tx : ByteArray} {v : VV} {nm : List ByteArray} {a b c d : List Tr} (h : OkE (.mk kd op tx v nm a b c d)) : kd ≠ 0 := by cases h <;> omega
theorem OkO.cases' {kd op : Int} {tx : ByteArray} {v : VV} {nm : List ByteArray} {a b c d : List Tr} (h : OkO (.mk kd op tx v nm a b c d)) : (kd = 0 ∧ nmE (.mk kd op tx v nm a b c d) = [] ∧ ctE (.mk kd op tx v nm a b c d) = 0) ∨ (kd ≠ 0 ∧ OkE (.mk kd op tx v nm a b c d)) := by
 cases h with
 | none => exact .inl ⟨rfl, by simp [nmE_mk], by simp [ctE_mk]⟩
 | expr _ h => exact .inr ⟨h.kd_ne, h⟩
set_option maxHeartbeats 12800000 in
theorem slice_any {R : Nat → Nat → Option Value} {B H bm : Nat} {x lo hi st : Tr} (HX : MEx R B H bm x) (okx : OkE x) (HK : ∀ t ∈ [lo, hi, st], OkE t → MEx R B H bm t) (o1 : OkO lo) (o2 : OkO hi) (o3 : OkO st) (op : Int) (tx : ByteArray) (v : VV) (nm : List ByteArray) (c d : List Tr) (cs : List Value) (w : World) (bi bf q : Nat) (vt : ExV R (.mk 12 op tx v nm [x, lo, hi, st] [] c d) cs) (ho : Old R B w) (hBH : B ≤ H) (hm : MK w H bm bi bf q) (hq : q + ctE (.mk 12 op tx v nm [x, lo, hi, st] [] c d) ≤ 8192) :
   Calls Tryz.prog 48 #[.pointer (some ⟨bm, 0, none⟩), .agg cs.toArray] w (MPost H bm bi bf q (ctE (.mk 12 op tx v nm [x, lo, hi, st] [] c d)) (nmE (.mk 12 op tx v nm [x, lo, hi, st] [] c d)) w) := by
 obtain ⟨_, _, _, _, _, _, _, _, _, ma, mc, ka, kc, sa, sc, pa, pc, et, ec, _, hxa, _, _⟩ := vt.form
 simp only [Tr.mk.injEq] at et
 obtain ⟨rfl, rfl, rfl, rfl, rfl, rfl, rfl, rfl, rfl⟩ := et
 have hct : ctE (.mk 12 op tx v nm [x, lo, hi, st] [] c d) = 1 + (ctE x + (ctE lo + (ctE hi + ctE st))) := by simp [ctE_mk]
 have hnm : nmE (.mk 12 op tx v nm [x, lo, hi, st] [] c d) = nmE x ++ (nmE lo ++ (nmE hi ++ nmE st)) := by simp [nmE_mk]
 rw [hct] at hq ⊢
 rw [hnm]
 obtain ⟨_, _, e2, _, _, hr2⟩ := hxa.form
 simp only [Value.slice.injEq] at e2
 obtain ⟨rb, ro, hsa, hxr⟩ := hr2 (by simp)
 rw [← e2.1] at hsa
 subst hsa
 have hx0 := hxr 0 x rfl
 have hx1 := hxr 1 lo rfl
 have hx2 := hxr 2 hi rfl
 have hx3 := hxr 3 st rfl
 rw [Nat.zero_mul, Nat.add_zero] at hx0
 rw [Nat.one_mul] at hx1
 obtain ⟨kd', op', tx', v', nm', ca', cb', cc', cd', ma', mc', ka', kc', sa', sc', pa', pc', et', hxv', hrd⟩ := hx0.rd
 obtain ⟨kd1, op1, tx1, v1, nm1, ca1, cb1, cc1, cd1, ma1, mc1, ka1, kc1, sa1, sc1, pa1, pc1, et1, hxv1, hrd1⟩ := hx1.rd
 obtain ⟨kd2, op2, tx2, v2, nm2, ca2, cb2, cc2, cd2, ma2, mc2, ka2, kc2, sa2, sc2, pa2, pc2, et2, hxv2, hrd2⟩ := hx2.rd
 obtain ⟨kd3, op3, tx3, v3, nm3, ca3, cb3, cc3, cd3, ma3, mc3, ka3, kc3, sa3, sc3, pa3, pc3, et3, hxv3, hrd3⟩ := hx3.rd
 simp only [List.length_cons, List.length_nil, Nat.zero_add, Nat.reduceAdd, Nat.reduceMul] at ec hrd1 hrd2 hrd3
 have hb0 : Below w.heap.size w (w.alloc (.cells #[.int .i64 12, .int .i64 op, .string tx, .int .i64 v.kd, .bool v.nb, .slice ma v.ms.length mc, .int .u64 v.ub, .string v.tx, .slice ka v.kn kc, .slice (some ⟨rb, ro, none⟩) 4 sc, .slice pa 0 pc] 75)) := (Below.refl _ _).alloc (Nat.le_refl _) _
 have E0 : Blk (w.alloc (.cells #[.int .i64 12, .int .i64 op, .string tx, .int .i64 v.kd, .bool v.nb, .slice ma v.ms.length mc, .int .u64 v.ub, .string v.tx, .slice ka v.kn kc, .slice (some ⟨rb, ro, none⟩) 4 sc, .slice pa 0 pc] 75)) w.heap.size 75 [.int .i64 12, .int .i64 op, .string tx, .int .i64 v.kd, .bool v.nb, .slice ma v.ms.length mc, .int .u64 v.ub, .string v.tx, .slice ka v.kn kc, .slice (some ⟨rb, ro, none⟩) 4 sc, .slice pa 0 pc] := Blk.new w _ _
 have HPOS := Li (pos_any H bm bi bf q (w.alloc (.cells #[.int .i64 12, .int .i64 op, .string tx, .int .i64 v.kd, .bool v.nb, .slice ma v.ms.length mc, .int .u64 v.ub, .string v.tx, .slice ka v.kn kc, .slice (some ⟨rb, ro, none⟩) 4 sc, .slice pa 0 pc] 75)) (hm.below hb0))
 have HE0' := Li E0
 have HB0 := Li hb0
 have HM := Li hm
 have HO := Li ho
 have HX' := Li HX
 have HK' := Li HK
 have HQ := Li hq
 have HV0 := Li hxv'; have HV1 := Li hxv1; have HV2 := Li hxv2; have HV3 := Li hxv3
 have HR0 := Li hrd; have HR1 := Li hrd1; have HR2 := Li hrd2; have HR3 := Li hrd3
 rw [et1] at o1; rw [et2] at o2; rw [et3] at o3
 have O1 := Li o1; have O2 := Li o2; have O3 := Li o3
 have ET1 := Li et1; have ET2 := Li et2; have ET3 := Li et3
 clear hr2 hxr hx0 hx1 hx2 hx3 hxv' hxv1 hxv2 hxv3 hrd hrd1 hrd2 hrd3 vt hxa e2 hct hnm hb0 E0 hm ho HX HK et' hq o1 o2 o3 et1 et2 et3
 subst ec
 go_enter Tryz.func48, Tryz.ntmps48
 go_wp2_with fail
 refine HPOS.out.mono ?_
 rintro e wq ⟨ln, rfl, hbq⟩
 clear HPOS
 obtain ⟨pb, hpb⟩ : ∃ pb, wq.heap.size = pb := ⟨_, rfl⟩
 have hl0 := HM.out.lts
 have hz0 := HB0.out.size
 have hzq := hbq.size
 have hbw : Below w.heap.size w (wq.alloc (.cells #[.pointer (some ⟨bm, 0, none⟩), .int .i32 ln, .int .i32 1] 63)).drew := (HB0.out.trans ((hbq.alloc hzq _).mono hz0)).drew
 have HBW := Li hbw
 have HP0 : Hid (Blk (wq.alloc (.cells #[.pointer (some ⟨bm, 0, none⟩), .int .i32 ln, .int .i32 1] 63)).drew pb 63 [.pointer (some ⟨bm, 0, none⟩), .int .i32 ln, .int .i32 1]) := Li (by rw [← hpb]; exact Blk.new wq _ _)
 have HE0 : Hid (Blk (wq.alloc (.cells #[.pointer (some ⟨bm, 0, none⟩), .int .i32 ln, .int .i32 1] 63)).drew w.heap.size 75 [.int .i64 12, .int .i64 op, .string tx, .int .i64 v.kd, .bool v.nb, .slice ma v.ms.length mc, .int .u64 v.ub, .string v.tx, .slice ka v.kn kc, .slice (some ⟨rb, ro, none⟩) 4 sc, .slice pa 0 pc]) := Li ((HE0'.out.below hbq HE0'.out.lt).alloc _)
 have HO0 : Hid (Old R B (wq.alloc (.cells #[.pointer (some ⟨bm, 0, none⟩), .int .i32 ln, .int .i32 1] 63)).drew) := Li (HO.out.below (hbw.mono (by omega)))
 have HMP : Hid (MK (wq.alloc (.cells #[.pointer (some ⟨bm, 0, none⟩), .int .i32 ln, .int .i32 1] 63)).drew H bm bi bf q) := Li (HM.out.below hbw)
 have PN := Li (HMP.out.ne HP0.out (by decide) (by decide) (by decide))
 have EN := Li (HMP.out.ne HE0.out (by decide) (by decide) (by decide))
 have MX := Li (HX'.out _ (wq.alloc (.cells #[.pointer (some ⟨bm, 0, none⟩), .int .i32 ln, .int .i32 1] 63)).drew bi bf q HV0.out HO0.out hBH HMP.out (by have := HQ.out; omega) okx)
 have KS : Hid (∀ W, Blk W pb 63 [.pointer (some ⟨bm, 0, none⟩), .int .i32 ln, .int .i32 1] → Blk W w.heap.size 75 [.int .i64 12, .int .i64 op, .string tx, .int .i64 v.kd, .bool v.nb, .slice ma v.ms.length mc, .int .u64 v.ub, .string v.tx, .slice ka v.kn kc, .slice (some ⟨rb, ro, none⟩) 4 sc, .slice pa 0 pc] → Old R B W → W.cell? ⟨w.heap.size, 9, none⟩ = some (.slice (some ⟨rb, ro, none⟩) 4 sc) ∧ W.cell? ⟨pb, 0, none⟩ = some (.pointer (some ⟨bm, 0, none⟩)) ∧ W.cell? ⟨pb, 1, none⟩ = some (.int .i32 ln) ∧ W.cell? ⟨pb, 2, none⟩ = some (.int .i32 1) ∧ W.cell? ⟨rb, ro, none⟩ = some (.int .i64 kd') ∧ W.cell? ⟨rb, ro + 1, none⟩ = some (.int .i64 op') ∧ W.cell? ⟨rb, ro + 2, none⟩ = some (.string tx') ∧ W.cell? ⟨rb, ro + 3, none⟩ = some (.int .i64 v'.kd) ∧ W.cell? ⟨rb, ro + 4, none⟩ = some (.bool v'.nb) ∧ W.cell? ⟨rb, ro + 5, none⟩ = some (.slice ma' v'.ms.length mc') ∧ W.cell? ⟨rb, ro + 6, none⟩ = some (.int .u64 v'.ub) ∧ W.cell? ⟨rb, ro + 7, none⟩ = some (.string v'.tx) ∧ W.cell? ⟨rb, ro + 8, none⟩ = some (.slice ka' v'.kn kc') ∧ W.cell? ⟨rb, ro + 9, none⟩ = some (.slice sa' ca'.length sc') ∧ W.cell? ⟨rb, ro + 10, none⟩ = some (.slice pa' cb'.length pc')) := Li (fun W h1 h2 h3 => ⟨h2.cell 9 (by simp), h1.cell 0 (by simp), h1.cell 1 (by simp), h1.cell 2 (by simp), HR0.out B W h3⟩)
 have STEPD : Hid (∀ (w1 : World) (Tx bx cx bi2 bf2 : Nat), Stp (wq.alloc (.cells #[.pointer (some ⟨bm, 0, none⟩), .int .i32 ln, .int .i32 1] 63)).drew.heap.size (wq.alloc (.cells #[.pointer (some ⟨bm, 0, none⟩), .int .i32 ln, .int .i32 1] 63)).drew w1 bm bi bf bi2 bf2 → MK w1 H bm bi2 bf2 (q + ctE x) → Nd (Gx w1 (wq.alloc (.cells #[.pointer (some ⟨bm, 0, none⟩), .int .i32 ln, .int .i32 1] 63)).drew.heap.size [bi2, bf2]) (.iface Tx (.pointer (some ⟨bx, 0, none⟩))) (nmE x) cx → cx + 1 ≤ 3 * ctE x →
     Blk w1 pb 63 [.pointer (some ⟨bm, 0, none⟩), .int .i32 ln, .int .i32 1] ∧ Blk w1 w.heap.size 75 [.int .i64 12, .int .i64 op, .string tx, .int .i64 v.kd, .bool v.nb, .slice ma v.ms.length mc, .int .u64 v.ub, .string v.tx, .slice ka v.kn kc, .slice (some ⟨rb, ro, none⟩) 4 sc, .slice pa 0 pc] ∧ Old R B w1 ∧ SlRel H bm bi bf q w1.heap.size (w1.heap.size + 1) w.heap.size ln (.iface Tx (.pointer (some ⟨bx, 0, none⟩))) cx [.int .i64 12, .int .i64 op, .string tx, .int .i64 v.kd, .bool v.nb, .slice ma v.ms.length mc, .int .u64 v.ub, .string v.tx, .slice ka v.kn kc, .slice (some ⟨rb, ro, none⟩) 4 sc, .slice pa 0 pc] w x lo hi st (.int .i64 0) ((w1.alloc (.cells #[.pointer none, .iface Tx (.pointer (some ⟨bx, 0, none⟩)), .pointer (some ⟨bm, 0, none⟩), .int .i32 ln, .int .i32 1, .nilIface, .nilIface, .nilIface, .pointer (some ⟨bm, 0, none⟩), .int .i32 ln, .int .i32 1] 139)).alloc (.cells #[.pointer (some ⟨w1.heap.size, 5, none⟩), .pointer (some ⟨w1.heap.size, 6, none⟩), .pointer (some ⟨w1.heap.size, 7, none⟩)] 207)).drew) := Li (fun w1 Tx bx cx bi2 bf2 hs1 hm1 hn1 hcx => by
   obtain ⟨hp1, _, _⟩ := hs1.blk HP0.out HP0.out.lt PN.out.1 PN.out.2.1 PN.out.2.2
   obtain ⟨he1, _, _⟩ := hs1.blk HE0.out HE0.out.lt EN.out.1 EN.out.2.1 EN.out.2.2
   have hzw := HBW.out.size
   have hsz := hs1.size
   have hO1 : Old R B w1 := HO0.out.below ((hs1.below (H := H) (by omega) (by omega) (by omega) (by omega)).mono hBH)
   have l1 := hm1.lts
   have hx1 : Blk ((w1.alloc (.cells #[.pointer none, .iface Tx (.pointer (some ⟨bx, 0, none⟩)), .pointer (some ⟨bm, 0, none⟩), .int .i32 ln, .int .i32 1, .nilIface, .nilIface, .nilIface, .pointer (some ⟨bm, 0, none⟩), .int .i32 ln, .int .i32 1] 139)).alloc (.cells #[.pointer (some ⟨w1.heap.size, 5, none⟩), .pointer (some ⟨w1.heap.size, 6, none⟩), .pointer (some ⟨w1.heap.size, 7, none⟩)] 207)).drew w1.heap.size 139 [.pointer none, .iface Tx (.pointer (some ⟨bx, 0, none⟩)), .pointer (some ⟨bm, 0, none⟩), .int .i32 ln, .int .i32 1, .nilIface, .nilIface, .nilIface, .pointer (some ⟨bm, 0, none⟩), .int .i32 ln, .int .i32 1] := (Blk.new w1 _ _).alloc _
   have ha0 : Blk ((w1.alloc (.cells #[.pointer none, .iface Tx (.pointer (some ⟨bx, 0, none⟩)), .pointer (some ⟨bm, 0, none⟩), .int .i32 ln, .int .i32 1, .nilIface, .nilIface, .nilIface, .pointer (some ⟨bm, 0, none⟩), .int .i32 ln, .int .i32 1] 139)).alloc (.cells #[.pointer (some ⟨w1.heap.size, 5, none⟩), .pointer (some ⟨w1.heap.size, 6, none⟩), .pointer (some ⟨w1.heap.size, 7, none⟩)] 207)) (w1.heap.size + 1) 207 [.pointer (some ⟨w1.heap.size, 5, none⟩), .pointer (some ⟨w1.heap.size, 6, none⟩), .pointer (some ⟨w1.heap.size, 7, none⟩)] := by
     have := Blk.new (w1.alloc (.cells #[.pointer none, .iface Tx (.pointer (some ⟨bx, 0, none⟩)), .pointer (some ⟨bm, 0, none⟩), .int .i32 ln, .int .i32 1, .nilIface, .nilIface, .nilIface, .pointer (some ⟨bm, 0, none⟩), .int .i32 ln, .int .i32 1] 139)) 207 [.pointer (some ⟨w1.heap.size, 5, none⟩), .pointer (some ⟨w1.heap.size, 6, none⟩), .pointer (some ⟨w1.heap.size, 7, none⟩)]
     simpa using this
   have ha1 : Blk ((w1.alloc (.cells #[.pointer none, .iface Tx (.pointer (some ⟨bx, 0, none⟩)), .pointer (some ⟨bm, 0, none⟩), .int .i32 ln, .int .i32 1, .nilIface, .nilIface, .nilIface, .pointer (some ⟨bm, 0, none⟩), .int .i32 ln, .int .i32 1] 139)).alloc (.cells #[.pointer (some ⟨w1.heap.size, 5, none⟩), .pointer (some ⟨w1.heap.size, 6, none⟩), .pointer (some ⟨w1.heap.size, 7, none⟩)] 207)).drew (w1.heap.size + 1) 207 [.pointer (some ⟨w1.heap.size, 5, none⟩), .pointer (some ⟨w1.heap.size, 6, none⟩), .pointer (some ⟨w1.heap.size, 7, none⟩)] := ha0
   have hbx : Below w1.heap.size w1 ((w1.alloc (.cells #[.pointer none, .iface Tx (.pointer (some ⟨bx, 0, none⟩)), .pointer (some ⟨bm, 0, none⟩), .int .i32 ln, .int .i32 1, .nilIface, .nilIface, .nilIface, .pointer (some ⟨bm, 0, none⟩), .int .i32 ln, .int .i32 1] 139)).alloc (.cells #[.pointer (some ⟨w1.heap.size, 5, none⟩), .pointer (some ⟨w1.heap.size, 6, none⟩), .pointer (some ⟨w1.heap.size, 7, none⟩)] 207)).drew := (((Below.refl _ _).alloc (Nat.le_refl _) _).alloc (by simp) _).drew
   refine ⟨hp1, he1, hO1, 0, ctE x, .nilIface, .nilIface, .nilIface, 0, 0, 0, bi2, bf2, Nat.zero_le _, rfl, Li (by simp), Li ⟨hx1, ha1, (he1.alloc _).alloc _, ((Stp.of_below HBW.out).trans (hs1.mono hzw)).trans (Stp.of_below (hbx.mono (by omega))), hm1.below hbx, (hn1.mono (Gx.le (by omega) fun b h1 h2 h3 => ?_)), fun l => absurd l (by decide), fun l => absurd l (by decide), fun l => absurd l (by decide), fun _ => rfl, fun _ => rfl, fun _ => rfl, hcx, by omega, by omega⟩⟩
   exact ⟨by simp at h3 ⊢; omega, hbx.block b h2⟩)
 clear hbq hl0 hz0 hzq hbw
 go_upto_region 2 with fail
 go_region_held3 (fun W => W.cell? ⟨w.heap.size, 9, none⟩ = some (.slice (some ⟨rb, ro, none⟩) 4 sc) ∧ W.cell? ⟨pb, 0, none⟩ = some (.pointer (some ⟨bm, 0, none⟩)) ∧ W.cell? ⟨pb, 1, none⟩ = some (.int .i32 ln) ∧ W.cell? ⟨pb, 2, none⟩ = some (.int .i32 1) ∧ W.cell? ⟨rb, ro, none⟩ = some (.int .i64 kd') ∧ W.cell? ⟨rb, ro + 1, none⟩ = some (.int .i64 op') ∧ W.cell? ⟨rb, ro + 2, none⟩ = some (.string tx') ∧ W.cell? ⟨rb, ro + 3, none⟩ = some (.int .i64 v'.kd) ∧ W.cell? ⟨rb, ro + 4, none⟩ = some (.bool v'.nb) ∧ W.cell? ⟨rb, ro + 5, none⟩ = some (.slice ma' v'.ms.length mc') ∧ W.cell? ⟨rb, ro + 6, none⟩ = some (.int .u64 v'.ub) ∧ W.cell? ⟨rb, ro + 7, none⟩ = some (.string v'.tx) ∧ W.cell? ⟨rb, ro + 8, none⟩ = some (.slice ka' v'.kn kc') ∧ W.cell? ⟨rb, ro + 9, none⟩ = some (.slice sa' ca'.length sc') ∧ W.cell? ⟨rb, ro + 10, none⟩ = some (.slice pa' cb'.length pc')) (with_reducible first | exact KS.out _ HP0.out HE0.out HO0.out | exact KS.out _ HP1.out HE1.out HO1.out | exact KS.out _ (HP1.out.alloc _) (HE1.out.alloc _) (HO1.out.alc _))
   ((first
     | (go_at_call 45; (with_reducible refine MX.out.mono ?_); rintro e w1 ⟨Tx, bx, cx, bi2, bf2, rfl, hs1, hm1, hn1, hcx⟩; obtain ⟨hp1, he1, ho1, stp⟩ := STEPD.out w1 Tx bx cx bi2 bf2 hs1 hm1 hn1 hcx; have HP1 := Li hp1; have HE1 := Li he1; have HO1 := Li ho1; have STP := Li stp; clear hs1 hm1 hn1 hcx hp1 he1 ho1 stp)
     | fail))
 clear STEPD KS MX HE0 HP0 HE0' HP1 HE1 HO1 HO0 HMP PN EN
 obtain ⟨xb, hxb⟩ : ∃ xb, w1.heap.size = xb := ⟨_, rfl⟩
 have i0 : (0 : Int) ≤ 3 := by omega
 go_upto_region 3 with fail
 go_region
 subst hxb
 go_wp2_with fail
 go_loopw [33] (SlRel H bm bi bf q w1.heap.size (w1.heap.size + 1) w.heap.size ln (.iface Tx (.pointer (some ⟨bx, 0, none⟩))) cx [.int .i64 12, .int .i64 op, .string tx, .int .i64 v.kd, .bool v.nb, .slice ma v.ms.length mc, .int .u64 v.ub, .string v.tx, .slice ka v.kn kc, .slice (some ⟨rb, ro, none⟩) 4 sc, .slice pa 0 pc] w x lo hi st) (fun i _ => 3 - (intOf i).toNat)
 case atStart => exact STP.out
 case round =>
   obtain ⟨k, m, g0, g1, g2, c0, c1, c2, bi', bf', hk, rfl, HMM, HAT⟩ := hrel
   clear STP
   have hl0 := HM.out.lts
   have hwr : Old R B wr := HO.out.below ((HAT.out.hs.below (H := H) (by omega) (by omega) (by omega) (by omega)).mono hBH)
   have HWR := Li hwr
   have hxl := HAT.out.hx.lt
   have hal := HAT.out.ha.lt
   have hel := HAT.out.he.lt
   have f9 := HAT.out.he.cell 9 (by simp)
   have hml := HAT.out.hm.lts
   have hwz := HAT.out.hs.size
   clear hwr
   rcases (by omega : k = 0 ∨ k = 1 ∨ k = 2 ∨ k = 3) with rfl | rfl | rfl | rfl
   · have a0 := HAT.out.ha.cell 0 (by simp)
     obtain ⟨q0, q1, q2, q3, q4, q5, q6, q7, q8, q9, q10⟩ := HR1.out B wr HWR.out
     obtain ⟨W0, hW0⟩ : ∃ W0, W0 = wr.alloc (.cells #[.int .i64 kd1, .int .i64 op1, .string tx1, .int .i64 v1.kd, .bool v1.nb, .slice ma1 v1.ms.length mc1, .int .u64 v1.ub, .string v1.tx, .slice ka1 v1.kn kc1, .slice sa1 ca1.length sc1, .slice pa1 cb1.length pc1] 75) := ⟨_, rfl⟩
     have hb0 : Below wr.heap.size wr W0 := by rw [hW0]; exact (Below.refl _ _).alloc (Nat.le_refl _) _
     have hat0 := HAT.out.keep (Stp.of_below hb0) (HAT.out.hm.below hb0)
     have HO0 := Li (HWR.out.below (hb0.mono (by omega)))
     have HAT0 := Li hat0
     have HBB := Li hb0
     have hmm := HMM.out
     rcases O1.out.cases' with ⟨hk0, hn0, hc0⟩ | ⟨hk0, hokt⟩
     · rw [← ET1.out] at hn0 hc0
       have FS : Hid (SlRel H bm bi bf q w1.heap.size (w1.heap.size + 1) w.heap.size ln (.iface Tx (.pointer (some ⟨bx, 0, none⟩))) cx [.int .i64 12, .int .i64 op, .string tx, .int .i64 v.kd, .bool v.nb, .slice ma v.ms.length mc, .int .u64 v.ub, .string v.tx, .slice ka v.kn kc, .slice (some ⟨rb, ro, none⟩) 4 sc, .slice pa 0 pc] w x lo hi st (.int .i64 1) W0) := Li ⟨1, m, g0, g1, g2, 0, c1, c2, bi', bf', by omega, rfl, Li (by rw [hmm]; simp [hc0]), Li (hat0.skip0 hn0)⟩
       clear hb0 hat0 hmm hn0 hc0 HO0 HAT0
       subst hk0 hW0
       go_wp2_with fail
       go_roundw
       case rel => first | exact FS.out | ((repeat apply Exists.intro); exact ⟨FS.out, rfl⟩)
       case measure => simp [intOf]
     · have MX := Li (HK'.out lo (by simp) (by rw [ET1.out]; exact hokt) _ W0 bi' bf' (q + m) HV1.out HO0.out hBH hat0.hm (by have := HQ.out; simp at hmm; omega) (by rw [ET1.out]; exact hokt))
       have HHM := Li hmm
       clear hb0 hat0 hmm hokt
       have hzz := HBB.out.size
       subst hW0
       go_wp2_with fail
       refine MX.out.mono ?_
       rintro e w2 ⟨T1, b1, n1, bi2, bf2, rfl, hs1, hm1, hn1, hc1⟩
       have hat1 := HAT0.out.keep hs1 (m' := m + ctE lo) (by rw [← Nat.add_assoc]; exact hm1)
       have x5 := hat1.hx.cell 5 (by simp)
       have xf := hat1.hx.free 5
       have xl := hat1.hx.lt
       have FS : Hid (SlRel H bm bi bf q w1.heap.size (w1.heap.size + 1) w.heap.size ln (.iface Tx (.pointer (some ⟨bx, 0, none⟩))) cx [.int .i64 12, .int .i64 op, .string tx, .int .i64 v.kd, .bool v.nb, .slice ma v.ms.length mc, .int .u64 v.ub, .string v.tx, .slice ka v.kn kc, .slice (some ⟨rb, ro, none⟩) 4 sc, .slice pa 0 pc] w x lo hi st (.int .i64 1) (w2.setCell ⟨w1.heap.size, 5, none⟩ (.iface T1 (.pointer (some ⟨b1, 0, none⟩))))) := Li ⟨1, m + ctE lo, (.iface T1 (.pointer (some ⟨b1, 0, none⟩))), g1, g2, n1, c1, c2, bi2, bf2, by omega, rfl, Li (by rw [HHM.out]; simp [Nat.add_assoc]), Li (hat1.put0 (.inr ⟨hn1.mono (Gx.le (by omega) fun b h1 h2 h3 => ⟨by simp at h3 ⊢; omega, rfl⟩), by omega⟩))⟩
       clear hs1 hm1 hn1 hc1 hat1 MX
       go_wp2_with fail
       go_roundw
       case rel => first | exact FS.out | ((repeat apply Exists.intro); exact ⟨FS.out, rfl⟩)
       case measure => simp [intOf]
   · have a1 := HAT.out.ha.cell 1 (by simp)
     obtain ⟨q0, q1, q2, q3, q4, q5, q6, q7, q8, q9, q10⟩ := HR2.out B wr HWR.out
     obtain ⟨W0, hW0⟩ : ∃ W0, W0 = wr.alloc (.cells #[.int .i64 kd2, .int .i64 op2, .string tx2, .int .i64 v2.kd, .bool v2.nb, .slice ma2 v2.ms.length mc2, .int .u64 v2.ub, .string v2.tx, .slice ka2 v2.kn kc2, .slice sa2 ca2.length sc2, .slice pa2 cb2.length pc2] 75) := ⟨_, rfl⟩
     have hb0 : Below wr.heap.size wr W0 := by rw [hW0]; exact (Below.refl _ _).alloc (Nat.le_refl _) _
     have hat0 := HAT.out.keep (Stp.of_below hb0) (HAT.out.hm.below hb0)
     have HO0 := Li (HWR.out.below (hb0.mono (by omega)))
     have HAT0 := Li hat0
     have HBB := Li hb0
     have hmm := HMM.out
     rcases O2.out.cases' with ⟨hk0, hn0, hc0⟩ | ⟨hk0, hokt⟩
     · rw [← ET2.out] at hn0 hc0
       have FS : Hid (SlRel H bm bi bf q w1.heap.size (w1.heap.size + 1) w.heap.size ln (.iface Tx (.pointer (some ⟨bx, 0, none⟩))) cx [.int .i64 12, .int .i64 op, .string tx, .int .i64 v.kd, .bool v.nb, .slice ma v.ms.length mc, .int .u64 v.ub, .string v.tx, .slice ka v.kn kc, .slice (some ⟨rb, ro, none⟩) 4 sc, .slice pa 0 pc] w x lo hi st (.int .i64 2) W0) := Li ⟨2, m, g0, g1, g2, c0, 0, c2, bi', bf', by omega, rfl, Li (by rw [hmm]; simp [hc0]), Li (hat0.skip1 hn0)⟩
       clear hb0 hat0 hmm hn0 hc0 HO0 HAT0
       subst hk0 hW0
       go_wp2_with fail
       go_roundw
       case rel => first | exact FS.out | ((repeat apply Exists.intro); exact ⟨FS.out, rfl⟩)
       case measure => simp [intOf]
     · have MX := Li (HK'.out hi (by simp) (by rw [ET2.out]; exact hokt) _ W0 bi' bf' (q + m) HV2.out HO0.out hBH hat0.hm (by have := HQ.out; simp at hmm; omega) (by rw [ET2.out]; exact hokt))
       have HHM := Li hmm
       clear hb0 hat0 hmm hokt
       have hzz := HBB.out.size
       subst hW0
       go_wp2_with fail
       refine MX.out.mono ?_
       rintro e w2 ⟨T1, b1, n1, bi2, bf2, rfl, hs1, hm1, hn1, hc1⟩
       have hat1 := HAT0.out.keep hs1 (m' := m + ctE hi) (by rw [← Nat.add_assoc]; exact hm1)
       have x5 := hat1.hx.cell 6 (by simp)
       have xf := hat1.hx.free 6
       have xl := hat1.hx.lt
       have FS : Hid (SlRel H bm bi bf q w1.heap.size (w1.heap.size + 1) w.heap.size ln (.iface Tx (.pointer (some ⟨bx, 0, none⟩))) cx [.int .i64 12, .int .i64 op, .string tx, .int .i64 v.kd, .bool v.nb, .slice ma v.ms.length mc, .int .u64 v.ub, .string v.tx, .slice ka v.kn kc, .slice (some ⟨rb, ro, none⟩) 4 sc, .slice pa 0 pc] w x lo hi st (.int .i64 2) (w2.setCell ⟨w1.heap.size, 6, none⟩ (.iface T1 (.pointer (some ⟨b1, 0, none⟩))))) := Li ⟨2, m + ctE hi, g0, (.iface T1 (.pointer (some ⟨b1, 0, none⟩))), g2, c0, n1, c2, bi2, bf2, by omega, rfl, Li (by rw [HHM.out]; simp [Nat.add_assoc]), Li (hat1.put1 (.inr ⟨hn1.mono (Gx.le (by omega) fun b h1 h2 h3 => ⟨by simp at h3 ⊢; omega, rfl⟩), by omega⟩))⟩
       clear hs1 hm1 hn1 hc1 hat1 MX
       go_wp2_with fail
       go_roundw
       case rel => first | exact FS.out | ((repeat apply Exists.intro); exact ⟨FS.out, rfl⟩)
       case measure => simp [intOf]
   · have a2 := HAT.out.ha.cell 2 (by simp)
     obtain ⟨q0, q1, q2, q3, q4, q5, q6, q7, q8, q9, q10⟩ := HR3.out B wr HWR.out
     obtain ⟨W0, hW0⟩ : ∃ W0, W0 = wr.alloc (.cells #[.int .i64 kd3, .int .i64 op3, .string tx3, .int .i64 v3.kd, .bool v3.nb, .slice ma3 v3.ms.length mc3, .int .u64 v3.ub, .string v3.tx, .slice ka3 v3.kn kc3, .slice sa3 ca3.length sc3, .slice pa3 cb3.length pc3] 75) := ⟨_, rfl⟩
     have hb0 : Below wr.heap.size wr W0 := by rw [hW0]; exact (Below.refl _ _).alloc (Nat.le_refl _) _
     have hat0 := HAT.out.keep (Stp.of_below hb0) (HAT.out.hm.below hb0)
     have HO0 := Li (HWR.out.below (hb0.mono (by omega)))
     have HAT0 := Li hat0
     have HBB := Li hb0
     have hmm := HMM.out
     rcases O3.out.cases' with ⟨hk0, hn0, hc0⟩ | ⟨hk0, hokt⟩
     · rw [← ET3.out] at hn0 hc0
       have FS : Hid (SlRel H bm bi bf q w1.heap.size (w1.heap.size + 1) w.heap.size ln (.iface Tx (.pointer (some ⟨bx, 0, none⟩))) cx [.int .i64 12, .int .i64 op, .string tx, .int .i64 v.kd, .bool v.nb, .slice ma v.ms.length mc, .int .u64 v.ub, .string v.tx, .slice ka v.kn kc, .slice (some ⟨rb, ro, none⟩) 4 sc, .slice pa 0 pc] w x lo hi st (.int .i64 3) W0) := Li ⟨3, m, g0, g1, g2, c0, c1, 0, bi', bf', by omega, rfl, Li (by rw [hmm]; simp [hc0]), Li (hat0.skip2 hn0)⟩
       clear hb0 hat0 hmm hn0 hc0 HO0 HAT0
       subst hk0 hW0
       go_wp2_with fail
       go_roundw
       case rel => first | exact FS.out | ((repeat apply Exists.intro); exact ⟨FS.out, rfl⟩)
       case measure => simp [intOf]
     · have MX := Li (HK'.out st (by simp) (by rw [ET3.out]; exact hokt) _ W0 bi' bf' (q + m) HV3.out HO0.out hBH hat0.hm (by have := HQ.out; simp at hmm; omega) (by rw [ET3.out]; exact hokt))
       have HHM := Li hmm
       clear hb0 hat0 hmm hokt
       have hzz := HBB.out.size
       subst hW0
       go_wp2_with fail
       refine MX.out.mono ?_
       rintro e w2 ⟨T1, b1, n1, bi2, bf2, rfl, hs1, hm1, hn1, hc1⟩
       have hat1 := HAT0.out.keep hs1 (m' := m + ctE st) (by rw [← Nat.add_assoc]; exact hm1)
       have x5 := hat1.hx.cell 7 (by simp)
       have xf := hat1.hx.free 7
       have xl := hat1.hx.lt
       have FS : Hid (SlRel H bm bi bf q w1.heap.size (w1.heap.size + 1) w.heap.size ln (.iface Tx (.pointer (some ⟨bx, 0, none⟩))) cx [.int .i64 12, .int .i64 op, .string tx, .int .i64 v.kd, .bool v.nb, .slice ma v.ms.length mc, .int .u64 v.ub, .string v.tx, .slice ka v.kn kc, .slice (some ⟨rb, ro, none⟩) 4 sc, .slice pa 0 pc] w x lo hi st (.int .i64 3) (w2.setCell ⟨w1.heap.size, 7, none⟩ (.iface T1 (.pointer (some ⟨b1, 0, none⟩))))) := Li ⟨3, m + ctE st, g0, g1, (.iface T1 (.pointer (some ⟨b1, 0, none⟩))), c0, c1, n1, bi2, bf2, by omega, rfl, Li (by rw [HHM.out]; simp [Nat.add_assoc]), Li (hat1.put2 (.inr ⟨hn1.mono (Gx.le (by omega) fun b h1 h2 h3 => ⟨by simp at h3 ⊢; omega, rfl⟩), by omega⟩))⟩
       clear hs1 hm1 hn1 hc1 hat1 MX
       go_wp2_with fail
       go_roundw
       case rel => first | exact FS.out | ((repeat apply Exists.intro); exact ⟨FS.out, rfl⟩)
       case measure => simp [intOf]
   · have FIN := Li (HAT.out.fin (n := 1 + (ctE x + (ctE lo + (ctE hi + ctE st)))) (ns := nmE x ++ (nmE lo ++ (nmE hi ++ nmE st))) rfl (by have := HMM.out; simp at this; omega) rfl)
     clear HAT HMM
     go_wp2_with fail
     go_ret
     exact FIN.out
section
variable {P : Program} {ops : Array Oper} {Q : Exit → Act → World → Prop} {md : Region.Mode} {S : World → Prop} {n : Nat}
def AnyL (P : Program) (md : Region.Mode) (ops : Array Oper) (Q : Exit → Act → World → Prop) (S : World → Prop) (n : Nat) : Nat → Array Bool → Act → World → Prop
 | 0, listed, a, w => Region.ready md ops listed = [] ∧ Q .normal a w
 | fuel + 1, listed, a, w =>
   (Region.ready md ops listed = [] → Q .normal a w) ∧
   ∀ i ∈ Region.ready md ops listed, wpOp P ops Q i (fun a' w' => (i ≠ n → S w') ∧ AnyL P md ops Q S n fuel (listed.setIfInBounds i true) a' w') a w
theorem AnyL.any : ∀ (fuel : Nat) (listed : Array Bool) (a : Act) (w : World), AnyL P md ops Q S n fuel listed a w → wpAny P md ops Q fuel listed a w
 | 0, _, _, _, h => h
 | fuel + 1, _, _, _, h => ⟨h.1, fun i hi => wpOp_mono (fun a' w' h' => AnyL.any fuel _ a' w' h'.2) (h.2 i hi)⟩
def lastOf (md : Region.Mode) (ops : Array Oper) (n i : Nat) : Bool :=
 match ops[n]? with
 | some o => o.after.any (fun e => Region.binds md e && e.on == i)
 | none => false
theorem lastOf.spec {i : Nat} (h : lastOf md ops n i = true) {listed : Array Bool} (hr : n ∈ Region.ready md ops listed) : listed.getD i false = true := by
 unfold lastOf at h
 obtain ⟨_, o, ho, hall⟩ := mem_ready.1 hr
 rw [ho] at h
 simp only [Array.any_eq_true, Bool.and_eq_true, beq_iff_eq] at h
 obtain ⟨k, hk, hb, he⟩ := h
 have := hall _ (Array.getElem_mem hk) hb
 rwa [he] at this
theorem AnyL.first {i : Nat} {oi : Oper} {v : Value} (hi : ops[i]? = some oi) (hsel : ∀ (j : Nat) (o : Oper) cs b, ops[j]? = some o → o.op ≠ .select cs b)
   (hQ : ∀ c a w, Q (.panic c) (a.put oi.dst v) w → Q (.panic c) a w) (hlast : lastOf md ops n i = true) :
   ∀ (fuel : Nat) (listed : Array Bool) (a : Act) (w : World),
     (∀ j oj, ops[j]? = some oj → j ≠ i → listed.getD j true = false → (∀ e ∈ oj.after, Region.binds md e = true → e.on ≠ i) → oi.apart ops oj = true) →
     i ∈ Region.ready md ops listed → YieldsIf P ops S oi v a → S w →
     AnyL P md ops Q S n fuel (listed.setIfInBounds i true) (a.put oi.dst v) w → AnyL P md ops Q S n (fuel + 1) listed a w := by
 intro fuel
 induction fuel with
 | zero =>
   intro listed a w _ hr hy hS H
   refine ⟨fun h => (by rw [h] at hr; cases hr), fun j hj => ?_⟩
   by_cases hji : j = i
   · subst hji; exact hy.wpOp hi hS ⟨fun _ => hS, H⟩
   · have := ready_mono hj hji
     rw [H.1] at this
     cases this
 | succ fuel ih =>
   intro listed a w hfree hr hy hS H
   refine ⟨fun h => (by rw [h] at hr; cases hr), fun j hj => ?_⟩
   by_cases hji : j = i
   · subst hji; exact hy.wpOp hi hS ⟨fun _ => hS, H⟩
   · have h1 := H.2 j (ready_mono hj hji)
     obtain ⟨hjun, oj, hoj, hall⟩ := mem_ready.1 hj
     have hjn : j ≠ n := by
       rintro rfl
       have h2 := lastOf.spec hlast hj
       have h0 := (mem_ready.1 hr).1
       rcases Nat.lt_or_ge i listed.size with h' | h'
       · simp [h'] at h0 h2; rw [h0] at h2; cases h2
       · simp [Array.getElem?_eq_none h'] at h2
     have hnot : ∀ e ∈ oj.after, Region.binds md e = true → e.on ≠ i := fun e he hb heq => by
       have h1 := hall e he hb
       have h0 := (mem_ready.1 hr).1
       rw [heq] at h1
       rcases Nat.lt_or_ge i listed.size with h' | h'
       · simp [h'] at h0 h1; rw [h0] at h1; cases h1
       · simp [Array.getElem?_eq_none h'] at h1
     have h2 := wpOp_putIf hoj (hfree j oj hoj hji hjun hnot) (fun cs b => hsel i oi cs b hi) (fun cs b => hsel j oj cs b hoj) hQ hy h1
     have hfree' : ∀ k ok, ops[k]? = some ok → k ≠ i → (listed.setIfInBounds j true).getD k true = false →
         (∀ e ∈ ok.after, Region.binds md e = true → e.on ≠ i) → oi.apart ops ok = true := fun k ok hk hki hun hno => by
       refine hfree k ok hk hki ?_ hno
       by_cases hjk : j = k
       · subst hjk; exact hjun
       · rw [getD_set_ne true hjk] at hun; exact hun
     refine wpOp_mono (fun a' w' h3 => ⟨h3.2.1, ih (listed.setIfInBounds j true) a' w' hfree' (ready_mono hr (Ne.symm hji)) h3.1 (h3.2.1 hjn) ?_⟩) h2
     rw [Array.setIfInBounds_comm _ _ hji]
     exact h3.2.2
theorem AnyL.take {i : Nat} {oi : Oper} {v : Value} {fuel : Nat} {listed : Array Bool} {a : Act} {w : World} (hi : ops[i]? = some oi)
   (hs : Region.noSelect ops = true) (hf : Region.free md ops listed i = true) (hr : (Region.ready md ops listed).contains i = true) (hlast : lastOf md ops n i = true)
   (hQ : ∀ c a w, Q (.panic c) (a.put oi.dst v) w → Q (.panic c) a w) (hy : YieldsIf P ops S oi v a) (hS : S w)
   (h : AnyL P md ops Q S n fuel (listed.setIfInBounds i true) (a.put oi.dst v) w) : AnyL P md ops Q S n (fuel + 1) listed a w :=
 AnyL.first hi (Region.noSelect_spec hs) hQ hlast fuel listed a w (Region.free_spec hi hf) (by simpa using hr) hy hS h
theorem tlA {fuel : Nat} {listed : Array Bool} {a : Act} {w : World} {oi : Oper} {v : Value} {l' : Array Bool} {a' : Act} (i : Nat)
   (h : AnyL P md ops Q S n fuel l' a' w)
   (hi : ops[i]? = some oi := by simp only [List.getElem?_toArray, List.getElem?_cons_zero, List.getElem?_cons_succ]; rfl)
   (hs : Region.noSelect ops = true := by kernel_rfl) (hf : Region.free md ops listed i = true := by kernel_rfl) (hr : (Region.ready md ops listed).contains i = true := by kernel_rfl) (hlast : lastOf md ops n i = true := by kernel_rfl)
   (hQ : ∀ c a w, Q (.panic c) (a.put oi.dst v) w → Q (.panic c) a w := by exact fun _ _ _ h => h)
   (hw : Region.wanted oi (yielded ops a.tmps) = true := by rfl)
   (hS : S w := by assumption)
   (hy : ∀ w, S w → (execOp a.eval oi).run P w = .ok (.value v) w := by intro wS hSw; (try dsimp only at hSw); go_simp; (try with_reducible rfl))
   (ha : a.put oi.dst v = a' := by (try simp only [Act.put, sA, s0, s1]); rfl) (hl : listed.setIfInBounds i true = l' := by (try simp only [sA, s0, s1]); rfl) : AnyL P md ops Q S n (fuel + 1) listed a w := by
 subst ha; subst hl
 exact AnyL.take hi hs hf hr hlast hQ (Or.inl ⟨hw, hy⟩) hS h
theorem AnyL.done {listed : Array Bool} {a : Act} {w : World} (hr : Region.ready md ops listed = []) (h : Q .normal a w) : ∀ fuel, AnyL P md ops Q S n fuel listed a w
 | 0 => ⟨hr, h⟩
 | _ + 1 => ⟨fun _ => h, by rw [hr]; simp⟩
def ReadyL (P : Program) (md : Region.Mode) (ops : Array Oper) (Q : Exit → Act → World → Prop) (S : World → Prop) (n fuel : Nat) (listed : Array Bool) (a : Act) (w : World) (rs : List Nat) : Prop :=
 ∀ i ∈ rs, wpOp P ops Q i (fun a' w' => (i ≠ n → S w') ∧ AnyL P md ops Q S n fuel (listed.setIfInBounds i true) a' w') a w
theorem ReadyL.nil {fuel : Nat} {listed : Array Bool} {a : Act} {w : World} : ReadyL P md ops Q S n fuel listed a w [] := fun _ h => by cases h
theorem ReadyL.cons {fuel : Nat} {listed : Array Bool} {a : Act} {w : World} {i : Nat} {o : Oper} {rs : List Nat} (ho : ops[i]? = some o)
   (h : ∀ K' : Act → World → Prop, Shut (∀ a w, S w → (S w → AnyL P md ops Q S n fuel (listed.setIfInBounds i true) a w) → K' a w) → if Region.wanted o (yielded ops a.tmps) = true then Oper.wp P o a w K' Q else K' (a.put o.dst undef) w)
   (hs : ReadyL P md ops Q S n fuel listed a w rs) : ReadyL P md ops Q S n fuel listed a w (i :: rs) := fun j hj => by
 rcases List.mem_cons.1 hj with rfl | hj
 · exact wpOp_step ho (fun K' hK => h K' (fun a w hS hW => hK a w ⟨fun _ => hS, hW hS⟩))
 · exact hs j hj
theorem ReadyL.last {fuel : Nat} {listed : Array Bool} {a : Act} {w : World} {o : Oper} (ho : ops[n]? = some o)
   (h : ∀ K' : Act → World → Prop, Shut (∀ a w, AnyL P md ops Q S n fuel (listed.setIfInBounds n true) a w → K' a w) → if Region.wanted o (yielded ops a.tmps) = true then Oper.wp P o a w K' Q else K' (a.put o.dst undef) w) : ReadyL P md ops Q S n fuel listed a w [n] := fun j hj => by
 rcases List.mem_cons.1 hj with rfl | hj
 · exact wpOp_step ho (fun K' hK => h K' (fun a w hW => hK a w ⟨fun h => absurd rfl h, hW⟩))
 · cases hj
theorem AnyL.ready {rs : List Nat} {fuel : Nat} {listed : Array Bool} {a : Act} {w : World} (hr : Region.ready md ops listed = rs) (hne : rs ≠ [])
   (h : ReadyL P md ops Q S n fuel listed a w rs) : AnyL P md ops Q S n (fuel + 1) listed a w := ⟨fun h0 => absurd (hr ▸ h0) hne, hr ▸ h⟩
theorem AnyL.begin {id : Nat} {a : Act} {w : World} (n : Nat) (S : World → Prop) (hm : P.follows .mixedOrders = true) (hS : S w.drew)
   (h : S w.drew → AnyL P .any ops Q S n ops.size (Array.replicate ops.size false) a w.drew) : (Code.region id ops true).wp P Q a w :=
 wp_region_any hm (AnyL.any _ _ _ _ (h hS))
end
def CaK (R : Nat → Nat → Option Value) (B bm pb eb : Nat) (ln : Int) (EE : List Value) (W : World) : Prop := Blk W pb 63 [.pointer (some ⟨bm, 0, none⟩), .int .i32 ln, .int .i32 1] ∧ Blk W eb 75 EE ∧ Old R B W
theorem CaK.alloc {R : Nat → Nat → Option Value} {B bm pb eb : Nat} {ln : Int} {EE : List Value} {W : World} (h : CaK R B bm pb eb ln EE W) (o : Obj) : CaK R B bm pb eb ln EE (W.alloc o) := ⟨h.1.alloc o, h.2.1.alloc o, h.2.2.alc o⟩
end Go.Proofs.YtoojgjhfmmohbaaGreat
