/- maker.literal at any literal that a text could have; an expression's cells at any later world. maker.clauses (printed by genwkcl.py). -/
import Derived.Test.YtoojgjhfmmohbaaGreatWkPar
namespace Go.Proofs.YtoojgjhfmmohbaaGreat
open Go.RowKit Dig
set_option linter.unusedVariables false
set_option linter.unusedSimpArgs false
set_option maxRecDepth 100000
theorem literal_any {R : Nat → Nat → Option Value} {B : Nat} (H bm bi bf q : Nat) (v : VV) (ma : Option Addr) (mc : Nat) (ka : Option Addr) (kc : Nat) (w : World) (hm : MK w H bm bi bf q) (h : VaR R v [.int .i64 v.kd, .bool v.nb, .slice ma v.ms.length mc, .int .u64 v.ub, .string v.tx, .slice ka v.kn kc]) (hv : OkV v) (ho : Old R B w) (hB : B ≤ w.heap.size) :
   Calls Tryz.prog 47 #[.pointer (some ⟨bm, 0, none⟩), .agg #[.int .i64 v.kd, .bool v.nb, .slice ma v.ms.length mc, .int .u64 v.ub, .string v.tx, .slice ka v.kn kc]] w (MPost H bm bi bf q 1 [] w) := by
 cases h with
 | mk _ _ _ _ hk hmm hb hu ht hn =>
 obtain ⟨h1, h2, h3⟩ := hv
 obtain ⟨kd, nb, ms, ub, tx, kn⟩ := v
 simp only at *
 rcases h1 with rfl | rfl | rfl | rfl
 · obtain ⟨rfl, hl, hz⟩ := h2 rfl
   exact literal_int H bm bi bf q ma ka ms mc kn kc ub tx w B hm (hmm.sl ho) hB hb hl hz
 · obtain ⟨hu0, hu1⟩ := h3 rfl
   exact literal_flt H bm bi bf q nb ma ka ms.length mc kn kc ub tx w hm hu0 hu1
 · exact literal_txt4 H bm bi bf q nb ma ka ms.length mc kn kc ub tx w hm
 · exact literal_txt5 H bm bi bf q nb ma ka ms.length mc kn kc ub tx w hm
def ExC (w : World) (b o : Nat) (kd op : Int) (tx : ByteArray) (v : VV) (ma ka sa pa : Option Addr) (mc kc sn sc pn pc : Nat) : Prop :=
 w.cell? ⟨b, o, none⟩ = some (.int .i64 kd) ∧ w.cell? ⟨b, o + 1, none⟩ = some (.int .i64 op) ∧ w.cell? ⟨b, o + 2, none⟩ = some (.string tx) ∧ w.cell? ⟨b, o + 3, none⟩ = some (.int .i64 v.kd) ∧ w.cell? ⟨b, o + 4, none⟩ = some (.bool v.nb) ∧ w.cell? ⟨b, o + 5, none⟩ = some (.slice ma v.ms.length mc) ∧ w.cell? ⟨b, o + 6, none⟩ = some (.int .u64 v.ub) ∧ w.cell? ⟨b, o + 7, none⟩ = some (.string v.tx) ∧ w.cell? ⟨b, o + 8, none⟩ = some (.slice ka v.kn kc) ∧ w.cell? ⟨b, o + 9, none⟩ = some (.slice sa sn sc) ∧ w.cell? ⟨b, o + 10, none⟩ = some (.slice pa pn pc)
theorem ExA.rd {R : Nat → Nat → Option Value} {b o : Nat} {t : Tr} (h : ExA R b o t) : ∃ kd op tx v nm a b' c d ma mc ka kc sa sc pa pc, t = .mk kd op tx v nm a b' c d ∧ ExV R t [.int .i64 kd, .int .i64 op, .string tx, .int .i64 v.kd, .bool v.nb, .slice ma v.ms.length mc, .int .u64 v.ub, .string v.tx, .slice ka v.kn kc, .slice sa a.length sc, .slice pa b'.length pc] ∧
   ∀ (B : Nat) (w : World), Old R B w → ExC w b o kd op tx v ma ka sa pa mc kc a.length sc b'.length pc := by
 obtain ⟨_, _, _, cs, hr, hx⟩ := h
 obtain ⟨kd, op, tx, v, nm, a, b', c, d, ma, mc, ka, kc, sa, sc, pa, pc, e, rfl, hall⟩ := hx.form
 refine ⟨kd, op, tx, v, nm, a, b', c, d, ma, mc, ka, kc, sa, sc, pa, pc, e, hx, fun B w ho => ?_⟩
 have f : ∀ i x, _ → w.cell? ⟨b, o + i, none⟩ = some x := fun i x hi => (ho b (o + i) x (hr i x hi)).2
 exact ⟨f 0 _ rfl, f 1 _ rfl, f 2 _ rfl, f 3 _ rfl, f 4 _ rfl, f 5 _ rfl, f 6 _ rfl, f 7 _ rfl, f 8 _ rfl, f 9 _ rfl, f 10 _ rfl⟩
theorem MLRel.stp {T : TypeId} {f : List Tr → List ByteArray} {C : List Tr → Nat} {H bm bi bf q : Nat} {w wr : World} {l : List Tr} {v i : Value} (h : MLRel T f C H bm bi bf q w l v i wr) : ∃ bi' bf', Stp w.heap.size w wr bm bi bf bi' bf' := by
 obtain ⟨k, vs, c, bi', bf', _, _, _, hs, _⟩ := h
 exact ⟨bi', bf', hs.out⟩
def ClRel (H bm bi bf q pb : Nat) (ln : Int) (w : World) (l : List Tr) (v i : Value) (wr : World) : Prop :=
 MLRel 55 nmEs ctEs H bm bi bf q w l v i wr ∧ Hid (Blk wr pb 63 [.pointer (some ⟨bm, 0, none⟩), .int .i32 ln, .int .i32 1])
theorem Old.alc {R : Nat → Nat → Option Value} {B : Nat} {w : World} (h : Old R B w) (x : Obj) : Old R B (w.alloc x) := fun b o y hy => by
 obtain ⟨h1, h2⟩ := h b o y hy
 refine ⟨h1, ?_⟩
 rw [World.cell?_of_block (a := ⟨b, o, none⟩) (Below.heap_alloc w x b (lt_of_cell h2))]
 exact h2
set_option maxHeartbeats 6400000 in
theorem mclauses_of {R : Nat → Nat → Option Value} {B H bm : Nat} {l : List Tr} (HE : ∀ p ∈ l, ∀ t ∈ p.a, MEx R B H bm t) (hok : ∀ p ∈ l, OkC p) (a : Option Addr) (c : Nat) (w : World) (bi bf q : Nat) (hl : ExL R l (.slice a l.length c)) (ho : Old R B w) (hBH : B ≤ H) (hm : MK w H bm bi bf q) (hq : q + ctEs l ≤ 8192) (hlen : l.length ≤ 8192) :
   Calls Tryz.prog 50 #[.pointer (some ⟨bm, 0, none⟩), .slice a l.length c] w (MLPost H bm bi bf q (ctEs l) l.length (nmEs l) w) := by
 obtain ⟨iE, hiE, hzE, hsE, hbE⟩ := info_parts infoNode
 obtain ⟨a', c', e, hc, hmx, hrow⟩ := hl.form
 simp only [Value.slice.injEq, true_and] at e
 obtain ⟨rfl, rfl⟩ := e
 unfold maxLen at hmx
 obtain ⟨g1, g2, g3, g4, g5, g6⟩ := hm.lts
 have HPOS := Li (pos_any H bm bi bf q w hm)
 have HO := Li ho; have HR := Li hrow; have HEH := Li HE; have HOK := Li hok; have HM := Li hm
 clear ho hrow HE hok hl hm
 go_enter Tryz.func50, Tryz.ntmps50
 go_wp2_with fail
 refine HPOS.out.mono ?_
 rintro e wq ⟨ln, rfl, hbq⟩
 obtain ⟨pb, hpb⟩ : ∃ pb, wq.heap.size = pb := ⟨_, rfl⟩
 have hpw : w.heap.size ≤ pb := by have := hbq.size; omega
 have START : Hid (ClRel H bm bi bf q pb ln w l (.slice none 0 0) (.int .i64 0) (wq.alloc (.cells #[.pointer (some ⟨bm, 0, none⟩), .int .i32 ln, .int .i32 1] 63))) := Li ⟨MLRel.start' 55 (C := ctEs) l HM.out (hbq.alloc (by omega) _) nmEs_nil, Li (by rw [← hpb]; exact Blk.new wq _ _)⟩
 clear hbq
 go_wp2_with fail
 go_loopw [4, 13] (ClRel H bm bi bf q pb ln w l) (fun _ i _ => l.length - (intOf i).toNat)
 case atStart => exact START.out
 case round =>
   obtain ⟨⟨k, vs, cn, bi', bf', hk, rfl, HOWN, HSTP, HMK, HNDS, HC, HRO⟩, HPB⟩ := hrel
   clear START hpb
   by_cases hlt : k < l.length
   · obtain ⟨t, ht⟩ : ∃ t, l[k]? = some t := ⟨_, List.getElem?_eq_getElem hlt⟩
     have hwr : Old R B wr := HO.out.below ((HSTP.out.below (H := H) (by omega) (by omega) (by omega) (by omega)).mono hBH)
     obtain ⟨b, o, rfl, hx⟩ := HR.out (by intro h; rw [h] at hlt; simp at hlt)
     obtain ⟨kd, op, tx, v, nm, ca, cb, cc, cd, ma, mc, ka, kc, sa, sc, pa, pc, et, hxv, ⟨hvr, hxa, hpbl, hkr, hor, htx⟩, hbB, c0, c1, c2, c3, c4, c5, c6, c7, c8, c9, c10⟩ := (hx k t ht).cells hwr
     have hle := len_takeC ctEs_append ht
     simp only [ctEs_cons, ctEs_nil, Nat.add_zero] at hle
     rw [et, ctE_mk] at hle
     obtain ⟨W0', hW0⟩ : ∃ W0', W0' = wr.alloc (.cells #[.int .i64 kd, .int .i64 op, .string tx, .int .i64 v.kd, .bool v.nb, .slice ma v.ms.length mc, .int .u64 v.ub, .string v.tx, .slice ka v.kn kc, .slice sa ca.length sc, .slice pa cb.length pc] 75) := ⟨_, rfl⟩
     have hb0 : Below wr.heap.size wr W0' := by rw [hW0]; exact (Below.refl _ _).alloc (Nat.le_refl _) _
     have hp0 := HPB.out.below hb0 HPB.out.lt
     have HPN := Li ((HMK.out.below hb0).ne hp0 (by decide) (by decide) (by decide))
     have HP0 := Li hp0
     have E0 : Blk W0' wr.heap.size 75 [.int .i64 kd, .int .i64 op, .string tx, .int .i64 v.kd, .bool v.nb, .slice ma v.ms.length mc, .int .u64 v.ub, .string v.tx, .slice ka v.kn kc, .slice sa ca.length sc, .slice pa cb.length pc] := by rw [hW0]; exact Blk.new wr _ _
     have HE0 := Li E0
     have hokt := HOK.out t (List.mem_of_getElem? ht)
     rw [et] at hokt
     have HOKT := Li hokt
     have HO0 := Li (hwr.below (hb0.mono (by have := HSTP.out.size; omega)))
     have HB0 := Li hb0
     have HT := Li ht
     have HET := Li et
     have HXA := Li hxa
     have HKS : Hid (∀ s ∈ ca, MEx R B H bm s) := Li (fun s hs => HEH.out t (List.mem_of_getElem? ht) s (by rw [et]; exact hs))
     have hsw : w.heap.size ≤ wr.heap.size := HSTP.out.size
     clear ht et hxv hvr hxa hpbl hkr hor htx hx hwr hb0 hp0 E0 hokt
     subst hW0
     cases HOKT.out with
     | when _ _ _ _ x _ _ hx =>
       simp only [ctEs_cons, ctEs_nil, ctPs_nil, Nat.add_zero, List.length_cons, List.length_nil, Nat.zero_add] at *
       rw [if_neg (by decide)] at hle
       obtain ⟨_, _, e2, _, _, hr2⟩ := HXA.out.form
       simp only [Value.slice.injEq] at e2
       obtain ⟨rb, ro, hsa, hxr⟩ := hr2 (by simp)
       rw [← e2.1] at hsa
       subst hsa
       have hx0 := hxr 0 x rfl
       rw [Nat.zero_mul, Nat.add_zero] at hx0
       obtain ⟨kd', op', tx', v', nm', ca', cb', cc', cd', ma', mc', ka', kc', sa', sc', pa', pc', et', hxv', hrd⟩ := hx0.rd
       clear e2 hr2 hxr hx0 et'
       have HO0 : Hid (Old R B (wr.alloc (.cells #[.int .i64 22, .int .i64 op, .string tx, .int .i64 v.kd, .bool v.nb, .slice ma v.ms.length mc, .int .u64 v.ub, .string v.tx, .slice ka v.kn kc, .slice (some ⟨rb, ro, none⟩) 1 sc, .slice pa 0 pc] 75)).drew) := HO0
       have HP0 : Hid (Blk (wr.alloc (.cells #[.int .i64 22, .int .i64 op, .string tx, .int .i64 v.kd, .bool v.nb, .slice ma v.ms.length mc, .int .u64 v.ub, .string v.tx, .slice ka v.kn kc, .slice (some ⟨rb, ro, none⟩) 1 sc, .slice pa 0 pc] 75)).drew pb 63 [.pointer (some ⟨bm, 0, none⟩), .int .i32 ln, .int .i32 1]) := HP0
       have HE0 : Hid (Blk (wr.alloc (.cells #[.int .i64 22, .int .i64 op, .string tx, .int .i64 v.kd, .bool v.nb, .slice ma v.ms.length mc, .int .u64 v.ub, .string v.tx, .slice ka v.kn kc, .slice (some ⟨rb, ro, none⟩) 1 sc, .slice pa 0 pc] 75)).drew wr.heap.size 75 [.int .i64 22, .int .i64 op, .string tx, .int .i64 v.kd, .bool v.nb, .slice ma v.ms.length mc, .int .u64 v.ub, .string v.tx, .slice ka v.kn kc, .slice (some ⟨rb, ro, none⟩) 1 sc, .slice pa 0 pc]) := HE0
       have HB0 : Hid (Below wr.heap.size wr (wr.alloc (.cells #[.int .i64 22, .int .i64 op, .string tx, .int .i64 v.kd, .bool v.nb, .slice ma v.ms.length mc, .int .u64 v.ub, .string v.tx, .slice ka v.kn kc, .slice (some ⟨rb, ro, none⟩) 1 sc, .slice pa 0 pc] 75)).drew) := Li HB0.out.drew
       have EN := Li ((HMK.out.below HB0.out).ne HE0.out (by decide) (by decide) (by decide))
       have MX := Li (HKS.out x (by simp) _ (wr.alloc (.cells #[.int .i64 22, .int .i64 op, .string tx, .int .i64 v.kd, .bool v.nb, .slice ma v.ms.length mc, .int .u64 v.ub, .string v.tx, .slice ka v.kn kc, .slice (some ⟨rb, ro, none⟩) 1 sc, .slice pa 0 pc] 75)).drew bi' bf' (q + ctEs (l.take k)) hxv' HO0.out hBH (HMK.out.below HB0.out) (by omega) hx)
       have KS : Hid (∀ W, Blk W pb 63 [.pointer (some ⟨bm, 0, none⟩), .int .i32 ln, .int .i32 1] → Blk W wr.heap.size 75 [.int .i64 22, .int .i64 op, .string tx, .int .i64 v.kd, .bool v.nb, .slice ma v.ms.length mc, .int .u64 v.ub, .string v.tx, .slice ka v.kn kc, .slice (some ⟨rb, ro, none⟩) 1 sc, .slice pa 0 pc] → Old R B W → W.cell? ⟨pb, 0, none⟩ = some (.pointer (some ⟨bm, 0, none⟩)) ∧ W.cell? ⟨pb, 1, none⟩ = some (.int .i32 ln) ∧ W.cell? ⟨pb, 2, none⟩ = some (.int .i32 1) ∧ W.cell? ⟨wr.heap.size, 9, none⟩ = some (.slice (some ⟨rb, ro, none⟩) 1 sc) ∧ W.cell? ⟨rb, ro, none⟩ = some (.int .i64 kd') ∧ W.cell? ⟨rb, ro + 1, none⟩ = some (.int .i64 op') ∧ W.cell? ⟨rb, ro + 2, none⟩ = some (.string tx') ∧ W.cell? ⟨rb, ro + 3, none⟩ = some (.int .i64 v'.kd) ∧ W.cell? ⟨rb, ro + 4, none⟩ = some (.bool v'.nb) ∧ W.cell? ⟨rb, ro + 5, none⟩ = some (.slice ma' v'.ms.length mc') ∧ W.cell? ⟨rb, ro + 6, none⟩ = some (.int .u64 v'.ub) ∧ W.cell? ⟨rb, ro + 7, none⟩ = some (.string v'.tx) ∧ W.cell? ⟨rb, ro + 8, none⟩ = some (.slice ka' v'.kn kc') ∧ W.cell? ⟨rb, ro + 9, none⟩ = some (.slice sa' ca'.length sc') ∧ W.cell? ⟨rb, ro + 10, none⟩ = some (.slice pa' cb'.length pc')) := Li (fun W h1 h2 h3 => ⟨h1.cell 0 (by simp), h1.cell 1 (by simp), h1.cell 2 (by simp), h2.cell 9 (by simp), hrd B W h3⟩)
       have STEPD : Hid (∀ (w1 : World) (Tx bx cx bi2 bf2 : Nat), Stp (wr.alloc (.cells #[.int .i64 22, .int .i64 op, .string tx, .int .i64 v.kd, .bool v.nb, .slice ma v.ms.length mc, .int .u64 v.ub, .string v.tx, .slice ka v.kn kc, .slice (some ⟨rb, ro, none⟩) 1 sc, .slice pa 0 pc] 75)).drew.heap.size (wr.alloc (.cells #[.int .i64 22, .int .i64 op, .string tx, .int .i64 v.kd, .bool v.nb, .slice ma v.ms.length mc, .int .u64 v.ub, .string v.tx, .slice ka v.kn kc, .slice (some ⟨rb, ro, none⟩) 1 sc, .slice pa 0 pc] 75)).drew w1 bm bi' bf' bi2 bf2 → MK w1 H bm bi2 bf2 (q + ctEs (l.take k) + ctE x) → Nd (Gx w1 (wr.alloc (.cells #[.int .i64 22, .int .i64 op, .string tx, .int .i64 v.kd, .bool v.nb, .slice ma v.ms.length mc, .int .u64 v.ub, .string v.tx, .slice ka v.kn kc, .slice (some ⟨rb, ro, none⟩) 1 sc, .slice pa 0 pc] 75)).drew.heap.size [bi2, bf2]) (.iface Tx (.pointer (some ⟨bx, 0, none⟩))) (nmE x) cx → cx + 1 ≤ 3 * ctE x →
           (w1.alloc (.cells #[.pointer none, .pointer (some ⟨bm, 0, none⟩), .int .i32 ln, .int .i32 1, .iface Tx (.pointer (some ⟨bx, 0, none⟩))] 145)).ownsRow w.heap.size 55 1 u4 k vs ∧ Blk w1 pb 63 [.pointer (some ⟨bm, 0, none⟩), .int .i32 ln, .int .i32 1] ∧ Blk w1 wr.heap.size 75 [.int .i64 22, .int .i64 op, .string tx, .int .i64 v.kd, .bool v.nb, .slice ma v.ms.length mc, .int .u64 v.ub, .string v.tx, .slice ka v.kn kc, .slice (some ⟨rb, ro, none⟩) 1 sc, .slice pa 0 pc] ∧ Old R B w1 ∧ w.heap.size ≤ w1.heap.size ∧ ∀ v3 w3, w3.ownsRow w.heap.size 55 1 v3 (k + 1) (vs ++ [(.iface 143 (.pointer (some ⟨w1.heap.size, 0, none⟩)))]) → ((w1.alloc (.cells #[.pointer none, .pointer (some ⟨bm, 0, none⟩), .int .i32 ln, .int .i32 1, .iface Tx (.pointer (some ⟨bx, 0, none⟩))] 145)).alloc (.cells #[(.iface 143 (.pointer (some ⟨w1.heap.size, 0, none⟩)))] 55)).grownBy w3 u4.ownBlock → (v3.ownBlock = u4.ownBlock ∨ v3.ownBlock = some ((w1.alloc (.cells #[.pointer none, .pointer (some ⟨bm, 0, none⟩), .int .i32 ln, .int .i32 1, .iface Tx (.pointer (some ⟨bx, 0, none⟩))] 145)).alloc (.cells #[(.iface 143 (.pointer (some ⟨w1.heap.size, 0, none⟩)))] 55)).heap.size) → ClRel H bm bi bf q pb ln w l v3 (.int .i64 ((k : Int) + 1)) w3 ∧ Blk w3 pb 63 [.pointer (some ⟨bm, 0, none⟩), .int .i32 ln, .int .i32 1] ∧ Blk w3 wr.heap.size 75 [.int .i64 22, .int .i64 op, .string tx, .int .i64 v.kd, .bool v.nb, .slice ma v.ms.length mc, .int .u64 v.ub, .string v.tx, .slice ka v.kn kc, .slice (some ⟨rb, ro, none⟩) 1 sc, .slice pa 0 pc] ∧ Old R B w3) := Li (fun w1 Tx bx cx bi2 bf2 hs1 hm1 hn1 hcx => by
         have OWN1 := hs1.own (own_below HOWN.out HB0.out) (fun r hr => ⟨by have := (HOWN.out.lt r hr).2; have := HB0.out.size; omega, HRO.out r hr⟩)
         obtain ⟨hp1, _, _⟩ := hs1.blk HP0.out HP0.out.lt HPN.out.1 HPN.out.2.1 HPN.out.2.2
         obtain ⟨he1, _, _⟩ := hs1.blk HE0.out HE0.out.lt EN.out.1 EN.out.2.1 EN.out.2.2
         have hsz := hs1.size
         have hsz0 := HB0.out.size
         have hlts := HMK.out.lts
         have hO1 : Old R B w1 := HO0.out.below ((hs1.below (H := H) (by omega) (by omega) (by omega) (by omega)).mono hBH)
         have hxn : Blk (w1.alloc (.cells #[.pointer none, .pointer (some ⟨bm, 0, none⟩), .int .i32 ln, .int .i32 1, .iface Tx (.pointer (some ⟨bx, 0, none⟩))] 145)) w1.heap.size 145 [.pointer none, .pointer (some ⟨bm, 0, none⟩), .int .i32 ln, .int .i32 1, .iface Tx (.pointer (some ⟨bx, 0, none⟩))] := Blk.new w1 _ _
         have hbu : Below w1.heap.size w1 (w1.alloc (.cells #[.pointer none, .pointer (some ⟨bm, 0, none⟩), .int .i32 ln, .int .i32 1, .iface Tx (.pointer (some ⟨bx, 0, none⟩))] 145)) := (Below.refl _ _).alloc (Nat.le_refl _) _
         have hs2 := hs1.trans (Stp.of_below (hbu.mono hsz))
         have hm2 := (hm1.below hbu).mono (show q + ctEs (l.take k) + ctE x ≤ q + ctEs (l.take k) + (1 + ctE x) by omega)
         obtain ⟨_, _, _, _, l5, l6⟩ := hm1.lts
         have hn2 : Nd (Gx (w1.alloc (.cells #[.pointer none, .pointer (some ⟨bm, 0, none⟩), .int .i32 ln, .int .i32 1, .iface Tx (.pointer (some ⟨bx, 0, none⟩))] 145)) (wr.alloc (.cells #[.int .i64 22, .int .i64 op, .string tx, .int .i64 v.kd, .bool v.nb, .slice ma v.ms.length mc, .int .u64 v.ub, .string v.tx, .slice ka v.kn kc, .slice (some ⟨rb, ro, none⟩) 1 sc, .slice pa 0 pc] 75)).drew.heap.size [bi2, bf2]) (.iface 143 (.pointer (some ⟨w1.heap.size, 0, none⟩))) (nmE x) (cx + 1) :=
           .node _ 145 [(4, .x)] (by simp [tbl]) _ _ (Gx.of hxn hsz (by simp; omega)) _ (.x 4 _ _ _ rfl .nil) _ _ (Nds.one (hn1.mono (Gx.below hbu)))
         have hb2 : Below (w1.alloc (.cells #[.pointer none, .pointer (some ⟨bm, 0, none⟩), .int .i32 ln, .int .i32 1, .iface Tx (.pointer (some ⟨bx, 0, none⟩))] 145)).heap.size (w1.alloc (.cells #[.pointer none, .pointer (some ⟨bm, 0, none⟩), .int .i32 ln, .int .i32 1, .iface Tx (.pointer (some ⟨bx, 0, none⟩))] 145)) ((w1.alloc (.cells #[.pointer none, .pointer (some ⟨bm, 0, none⟩), .int .i32 ln, .int .i32 1, .iface Tx (.pointer (some ⟨bx, 0, none⟩))] 145)).alloc (.cells #[(.iface 143 (.pointer (some ⟨w1.heap.size, 0, none⟩)))] 55)) := (Below.refl _ _).alloc (Nat.le_refl _) _
         have OWN2 := own_below OWN1 hbu
         have OWN3 := own_below OWN2 hb2
         refine ⟨OWN2, hp1, he1, hO1, by omega, fun v3 w3 h1 h2 h3 => ?_⟩
         have hp3 := (((hp1.alloc (.cells #[.pointer none, .pointer (some ⟨bm, 0, none⟩), .int .i32 ln, .int .i32 1, .iface Tx (.pointer (some ⟨bx, 0, none⟩))] 145)).alloc (.cells #[(.iface 143 (.pointer (some ⟨w1.heap.size, 0, none⟩)))] 55)).far_own OWN3 (by decide) h2)
         have he3 := (((he1.alloc (.cells #[.pointer none, .pointer (some ⟨bm, 0, none⟩), .int .i32 ln, .int .i32 1, .iface Tx (.pointer (some ⟨bx, 0, none⟩))] 145)).alloc (.cells #[(.iface 143 (.pointer (some ⟨w1.heap.size, 0, none⟩)))] 55)).far_own OWN3 (by decide) h2)
         have rel := MLRel.step HT.out (by omega) HOWN.out HSTP.out HMK.out HNDS.out HC.out HRO.out HB0.out hs2 hm2 hn2 (by omega) hb2 h2 h1 h3 (by rw [nmEs_append, HET.out]; simp [nmE_mk]) (by rw [ctEs_append, HET.out]; simp [ctE_mk])
         obtain ⟨bi5, bf5, hs5⟩ := rel.stp
         exact ⟨⟨rel, Li hp3⟩, hp3, he3, HO.out.below ((hs5.below (H := H) (by omega) (by omega) (by omega) (by omega)).mono hBH)⟩)
       clear hrd hxv'
       go_upto_region 10 with fail
       go_region_held3 (fun W => W.cell? ⟨pb, 0, none⟩ = some (.pointer (some ⟨bm, 0, none⟩)) ∧ W.cell? ⟨pb, 1, none⟩ = some (.int .i32 ln) ∧ W.cell? ⟨pb, 2, none⟩ = some (.int .i32 1) ∧ W.cell? ⟨wr.heap.size, 9, none⟩ = some (.slice (some ⟨rb, ro, none⟩) 1 sc) ∧ W.cell? ⟨rb, ro, none⟩ = some (.int .i64 kd') ∧ W.cell? ⟨rb, ro + 1, none⟩ = some (.int .i64 op') ∧ W.cell? ⟨rb, ro + 2, none⟩ = some (.string tx') ∧ W.cell? ⟨rb, ro + 3, none⟩ = some (.int .i64 v'.kd) ∧ W.cell? ⟨rb, ro + 4, none⟩ = some (.bool v'.nb) ∧ W.cell? ⟨rb, ro + 5, none⟩ = some (.slice ma' v'.ms.length mc') ∧ W.cell? ⟨rb, ro + 6, none⟩ = some (.int .u64 v'.ub) ∧ W.cell? ⟨rb, ro + 7, none⟩ = some (.string v'.tx) ∧ W.cell? ⟨rb, ro + 8, none⟩ = some (.slice ka' v'.kn kc') ∧ W.cell? ⟨rb, ro + 9, none⟩ = some (.slice sa' ca'.length sc') ∧ W.cell? ⟨rb, ro + 10, none⟩ = some (.slice pa' cb'.length pc')) (with_reducible first | exact KS.out _ HP0.out HE0.out HO0.out | exact KS.out _ HP1.out HE1.out HO1.out | exact KS.out _ (HP1.out.alloc _) (HE1.out.alloc _) (HO1.out.alc _) | exact KS.out _ ((HP1.out.alloc _).alloc _) ((HE1.out.alloc _).alloc _) ((HO1.out.alc _).alc _) | exact KS.out _ HP3.out HE3.out HO3.out)
         ((first
           | (go_at_call 45; (with_reducible refine MX.out.mono ?_); rintro e w1 ⟨Tx, bx, cx, bi2, bf2, rfl, hs1, hm1, hn1, hcx⟩; obtain ⟨ow2, hp1, he1, ho1, hw1, stp⟩ := STEPD.out w1 Tx bx cx bi2 bf2 hs1 hm1 hn1 hcx; have OW2 := Li (ow2.alloc (.cells #[(.iface 143 (.pointer (some ⟨w1.heap.size, 0, none⟩)))] 55)); have HP1 := Li hp1; have HE1 := Li he1; have HO1 := Li ho1; have STP := Li stp; have HW1 := Li hw1; clear hs1 hm1 hn1 ow2 hp1 he1 stp hw1 ho1 hcx)
           | (refine step_append_to _ rfl (.tmp 60) (.tmp 71) 81 rfl w.heap.size 55 iE _ 16 Tryz.underlying81 hiE hzE hsE hbE rfl u4 k _ rfl OW2.out _ _ _ rfl (Sl.one _ _ _ (by simp)) (by intro u hu; simp at hu; subst hu; rfl) (by unfold maxLen; simp; omega) (by simp; omega) (by have := HW1.out; simp; omega) ?_; intro v3 w3 g1 g2 g3; obtain ⟨fs, hp3, he3, ho3⟩ := STP.out v3 w3 g1 g2 g3; have FS := Li fs; have HP3 := Li hp3; have HE3 := Li he3; have HO3 := Li ho3; clear g1 g2 g3 fs hp3 he3 ho3)
           | fail))
       go_wp2_with fail
       go_roundw
       case rel => first | exact FS.out | ((repeat apply Exists.intro); exact ⟨FS.out, rfl⟩)
       case measure => simp [intOf]; omega
     | each _ _ _ _ x y _ _ hx hy =>
       simp only [ctEs_cons, ctEs_nil, ctPs_nil, Nat.add_zero, List.length_cons, List.length_nil, Nat.zero_add, Nat.reduceAdd] at *
       rw [if_neg (by decide)] at hle
       obtain ⟨_, _, e2, _, _, hr2⟩ := HXA.out.form
       simp only [Value.slice.injEq] at e2
       obtain ⟨rb, ro, hsa, hxr⟩ := hr2 (by simp)
       rw [← e2.1] at hsa
       subst hsa
       have hx0 := hxr 0 x rfl
       have hx1 := hxr 1 y rfl
       rw [Nat.zero_mul, Nat.add_zero] at hx0
       rw [Nat.one_mul] at hx1
       obtain ⟨kd1, op1, tx1, v1, nm1, ca1, cb1, cc1, cd1, ma1, mc1, ka1, kc1, sa1, sc1, pa1, pc1, et1, hxv1, hrd1⟩ := hx0.rd
       obtain ⟨kd', op', tx', v', nm', ca', cb', cc', cd', ma', mc', ka', kc', sa', sc', pa', pc', et', hxv', hrd⟩ := hx1.rd
       clear e2 hr2 hxr hx0 hx1 et' et1
       have EN := Li ((HMK.out.below HB0.out).ne HE0.out (by decide) (by decide) (by decide))
       have MX1 := Li (HKS.out x (by simp) _ (wr.alloc (.cells #[.int .i64 21, .int .i64 op, .string tx, .int .i64 v.kd, .bool v.nb, .slice ma v.ms.length mc, .int .u64 v.ub, .string v.tx, .slice ka v.kn kc, .slice (some ⟨rb, ro, none⟩) 2 sc, .slice pa 0 pc] 75)) bi' bf' (q + ctEs (l.take k)) hxv1 HO0.out hBH (HMK.out.below HB0.out) (by omega) hx)
       have Q0 := hrd1 B wr (HO.out.below ((HSTP.out.below (H := H) (by omega) (by omega) (by omega) (by omega)).mono hBH))
       obtain ⟨q0, q1, q2, q3, q4, q5, q6, q7, q8, q9, q10⟩ := Q0
       have hrbl : rb < wr.heap.size := lt_of_cell q0
       clear hrd1 hxv1
       go_wp2_with fail
       refine MX1.out.mono ?_
       rintro e wa ⟨T1, b1, n1, bia, bfa, rfl, hsa1, hma, hna, hca⟩
       have hza := hsa1.size
       have hz0 := HB0.out.size
       have hlts := HMK.out.lts
       have hltsa := hma.lts
       obtain ⟨hpa, _, _⟩ := hsa1.blk HP0.out HP0.out.lt HPN.out.1 HPN.out.2.1 HPN.out.2.2
       obtain ⟨hea, _, _⟩ := hsa1.blk HE0.out HE0.out.lt EN.out.1 EN.out.2.1 EN.out.2.2
       have HOA : Hid (Old R B wa.drew) := Li (show Old R B wa from HO0.out.below ((hsa1.below (H := H) (by omega) (by omega) (by omega) (by omega)).mono hBH))
       have HPA : Hid (Blk wa.drew pb 63 [.pointer (some ⟨bm, 0, none⟩), .int .i32 ln, .int .i32 1]) := Li hpa
       have HEA : Hid (Blk wa.drew wr.heap.size 75 [.int .i64 21, .int .i64 op, .string tx, .int .i64 v.kd, .bool v.nb, .slice ma v.ms.length mc, .int .u64 v.ub, .string v.tx, .slice ka v.kn kc, .slice (some ⟨rb, ro, none⟩) 2 sc, .slice pa 0 pc]) := Li hea
       have HMA : Hid (MK wa.drew H bm bia bfa (q + ctEs (l.take k) + ctE x)) := Li hma
       have HPNA := Li (HMA.out.ne HPA.out (by decide) (by decide) (by decide))
       have ENA := Li (HMA.out.ne HEA.out (by decide) (by decide) (by decide))
       have HSA : Hid (Stp (wr.alloc (.cells #[.int .i64 21, .int .i64 op, .string tx, .int .i64 v.kd, .bool v.nb, .slice ma v.ms.length mc, .int .u64 v.ub, .string v.tx, .slice ka v.kn kc, .slice (some ⟨rb, ro, none⟩) 2 sc, .slice pa 0 pc] 75)).heap.size (wr.alloc (.cells #[.int .i64 21, .int .i64 op, .string tx, .int .i64 v.kd, .bool v.nb, .slice ma v.ms.length mc, .int .u64 v.ub, .string v.tx, .slice ka v.kn kc, .slice (some ⟨rb, ro, none⟩) 2 sc, .slice pa 0 pc] 75)) wa.drew bm bi' bf' bia bfa) := Li hsa1.drew
       have HNA : Hid (Nd (Gx wa.drew (wr.alloc (.cells #[.int .i64 21, .int .i64 op, .string tx, .int .i64 v.kd, .bool v.nb, .slice ma v.ms.length mc, .int .u64 v.ub, .string v.tx, .slice ka v.kn kc, .slice (some ⟨rb, ro, none⟩) 2 sc, .slice pa 0 pc] 75)).heap.size [bia, bfa]) (.iface T1 (.pointer (some ⟨b1, 0, none⟩))) (nmE x) n1) := Li hna
       have OWNA : Hid (wa.drew.ownsRow w.heap.size 55 1 u4 k vs) := Li (hsa1.own (own_below HOWN.out HB0.out) (fun r hr => ⟨by have := (HOWN.out.lt r hr).2; omega, HRO.out r hr⟩))
       have HROA : Hid (∀ r, u4.ownBlock = some r → r < wa.drew.heap.size ∧ r ≠ bm ∧ r ≠ bia ∧ r ≠ bfa) := Li (fun r hr => by
         have h1 := (HOWN.out.lt r hr).2
         have h2 := HRO.out r hr
         refine ⟨Nat.lt_of_lt_of_le (Nat.lt_of_lt_of_le h1 hz0) hza, h2.1, ?_, ?_⟩
         · rcases hsa1.hi with e | e <;> omega
         · rcases hsa1.hf with e | e <;> omega)
       have hzd : wa.drew.heap.size = wa.heap.size := rfl
       have HZ : Hid ((wr.alloc (.cells #[.int .i64 21, .int .i64 op, .string tx, .int .i64 v.kd, .bool v.nb, .slice ma v.ms.length mc, .int .u64 v.ub, .string v.tx, .slice ka v.kn kc, .slice (some ⟨rb, ro, none⟩) 2 sc, .slice pa 0 pc] 75)).heap.size ≤ wa.drew.heap.size ∧ bm < (wr.alloc (.cells #[.int .i64 21, .int .i64 op, .string tx, .int .i64 v.kd, .bool v.nb, .slice ma v.ms.length mc, .int .u64 v.ub, .string v.tx, .slice ka v.kn kc, .slice (some ⟨rb, ro, none⟩) 2 sc, .slice pa 0 pc] 75)).heap.size ∧ w.heap.size ≤ (wr.alloc (.cells #[.int .i64 21, .int .i64 op, .string tx, .int .i64 v.kd, .bool v.nb, .slice ma v.ms.length mc, .int .u64 v.ub, .string v.tx, .slice ka v.kn kc, .slice (some ⟨rb, ro, none⟩) 2 sc, .slice pa 0 pc] 75)).heap.size) := Li ⟨hza, by omega, by omega⟩
       have MX := Li (HKS.out y (by simp) _ wa.drew bia bfa (q + ctEs (l.take k) + ctE x) hxv' HOA.out hBH HMA.out (by omega) hy)
       have KS : Hid (∀ W, Blk W pb 63 [.pointer (some ⟨bm, 0, none⟩), .int .i32 ln, .int .i32 1] → Blk W wr.heap.size 75 [.int .i64 21, .int .i64 op, .string tx, .int .i64 v.kd, .bool v.nb, .slice ma v.ms.length mc, .int .u64 v.ub, .string v.tx, .slice ka v.kn kc, .slice (some ⟨rb, ro, none⟩) 2 sc, .slice pa 0 pc] → Old R B W → W.cell? ⟨pb, 0, none⟩ = some (.pointer (some ⟨bm, 0, none⟩)) ∧ W.cell? ⟨pb, 1, none⟩ = some (.int .i32 ln) ∧ W.cell? ⟨pb, 2, none⟩ = some (.int .i32 1) ∧ W.cell? ⟨wr.heap.size, 9, none⟩ = some (.slice (some ⟨rb, ro, none⟩) 2 sc) ∧ W.cell? ⟨rb, ro + 11, none⟩ = some (.int .i64 kd') ∧ W.cell? ⟨rb, ro + 12, none⟩ = some (.int .i64 op') ∧ W.cell? ⟨rb, ro + 13, none⟩ = some (.string tx') ∧ W.cell? ⟨rb, ro + 14, none⟩ = some (.int .i64 v'.kd) ∧ W.cell? ⟨rb, ro + 15, none⟩ = some (.bool v'.nb) ∧ W.cell? ⟨rb, ro + 16, none⟩ = some (.slice ma' v'.ms.length mc') ∧ W.cell? ⟨rb, ro + 17, none⟩ = some (.int .u64 v'.ub) ∧ W.cell? ⟨rb, ro + 18, none⟩ = some (.string v'.tx) ∧ W.cell? ⟨rb, ro + 19, none⟩ = some (.slice ka' v'.kn kc') ∧ W.cell? ⟨rb, ro + 20, none⟩ = some (.slice sa' ca'.length sc') ∧ W.cell? ⟨rb, ro + 21, none⟩ = some (.slice pa' cb'.length pc')) := Li (fun W h1 h2 h3 => ⟨h1.cell 0 (by simp), h1.cell 1 (by simp), h1.cell 2 (by simp), h2.cell 9 (by simp), hrd B W h3⟩)
       have STEPD : Hid (∀ (w1 : World) (Tx bx cx bi2 bf2 : Nat), Stp wa.drew.heap.size wa.drew w1 bm bia bfa bi2 bf2 → MK w1 H bm bi2 bf2 (q + ctEs (l.take k) + ctE x + ctE y) → Nd (Gx w1 wa.drew.heap.size [bi2, bf2]) (.iface Tx (.pointer (some ⟨bx, 0, none⟩))) (nmE y) cx → cx + 1 ≤ 3 * ctE y →
           (w1.alloc (.cells #[.pointer none, .pointer (some ⟨bm, 0, none⟩), .int .i32 ln, .int .i32 1, .iface T1 (.pointer (some ⟨b1, 0, none⟩)), .pointer (some ⟨bm, 0, none⟩), .int .i32 ln, .int .i32 1, .iface Tx (.pointer (some ⟨bx, 0, none⟩))] 148)).ownsRow w.heap.size 55 1 u4 k vs ∧ Blk w1 pb 63 [.pointer (some ⟨bm, 0, none⟩), .int .i32 ln, .int .i32 1] ∧ Blk w1 wr.heap.size 75 [.int .i64 21, .int .i64 op, .string tx, .int .i64 v.kd, .bool v.nb, .slice ma v.ms.length mc, .int .u64 v.ub, .string v.tx, .slice ka v.kn kc, .slice (some ⟨rb, ro, none⟩) 2 sc, .slice pa 0 pc] ∧ Old R B w1 ∧ w.heap.size ≤ w1.heap.size ∧ ∀ v3 w3, w3.ownsRow w.heap.size 55 1 v3 (k + 1) (vs ++ [(.iface 146 (.pointer (some ⟨w1.heap.size, 0, none⟩)))]) → ((w1.alloc (.cells #[.pointer none, .pointer (some ⟨bm, 0, none⟩), .int .i32 ln, .int .i32 1, .iface T1 (.pointer (some ⟨b1, 0, none⟩)), .pointer (some ⟨bm, 0, none⟩), .int .i32 ln, .int .i32 1, .iface Tx (.pointer (some ⟨bx, 0, none⟩))] 148)).alloc (.cells #[(.iface 146 (.pointer (some ⟨w1.heap.size, 0, none⟩)))] 55)).grownBy w3 u4.ownBlock → (v3.ownBlock = u4.ownBlock ∨ v3.ownBlock = some ((w1.alloc (.cells #[.pointer none, .pointer (some ⟨bm, 0, none⟩), .int .i32 ln, .int .i32 1, .iface T1 (.pointer (some ⟨b1, 0, none⟩)), .pointer (some ⟨bm, 0, none⟩), .int .i32 ln, .int .i32 1, .iface Tx (.pointer (some ⟨bx, 0, none⟩))] 148)).alloc (.cells #[(.iface 146 (.pointer (some ⟨w1.heap.size, 0, none⟩)))] 55)).heap.size) → ClRel H bm bi bf q pb ln w l v3 (.int .i64 ((k : Int) + 1)) w3 ∧ Blk w3 pb 63 [.pointer (some ⟨bm, 0, none⟩), .int .i32 ln, .int .i32 1] ∧ Blk w3 wr.heap.size 75 [.int .i64 21, .int .i64 op, .string tx, .int .i64 v.kd, .bool v.nb, .slice ma v.ms.length mc, .int .u64 v.ub, .string v.tx, .slice ka v.kn kc, .slice (some ⟨rb, ro, none⟩) 2 sc, .slice pa 0 pc] ∧ Old R B w3) := Li (fun w1 Tx bx cx bi2 bf2 hs1 hm1 hn1 hcx => by
         obtain ⟨z1, z2, z3⟩ := HZ.out
         have OWN1 := hs1.own OWNA.out HROA.out
         obtain ⟨hp1, _, _⟩ := hs1.blk HPA.out HPA.out.lt HPNA.out.1 HPNA.out.2.1 HPNA.out.2.2
         obtain ⟨he1, _, _⟩ := hs1.blk HEA.out HEA.out.lt ENA.out.1 ENA.out.2.1 ENA.out.2.2
         have hsz := hs1.size
         have hO1 : Old R B w1 := HOA.out.below ((hs1.below (H := H) (by omega) (by omega) (by omega) (by omega)).mono hBH)
         have hxn : Blk (w1.alloc (.cells #[.pointer none, .pointer (some ⟨bm, 0, none⟩), .int .i32 ln, .int .i32 1, .iface T1 (.pointer (some ⟨b1, 0, none⟩)), .pointer (some ⟨bm, 0, none⟩), .int .i32 ln, .int .i32 1, .iface Tx (.pointer (some ⟨bx, 0, none⟩))] 148)) w1.heap.size 148 [.pointer none, .pointer (some ⟨bm, 0, none⟩), .int .i32 ln, .int .i32 1, .iface T1 (.pointer (some ⟨b1, 0, none⟩)), .pointer (some ⟨bm, 0, none⟩), .int .i32 ln, .int .i32 1, .iface Tx (.pointer (some ⟨bx, 0, none⟩))] := Blk.new w1 _ _
         have hbu : Below w1.heap.size w1 (w1.alloc (.cells #[.pointer none, .pointer (some ⟨bm, 0, none⟩), .int .i32 ln, .int .i32 1, .iface T1 (.pointer (some ⟨b1, 0, none⟩)), .pointer (some ⟨bm, 0, none⟩), .int .i32 ln, .int .i32 1, .iface Tx (.pointer (some ⟨bx, 0, none⟩))] 148)) := (Below.refl _ _).alloc (Nat.le_refl _) _
         have hs2 := (HSA.out.trans (hs1.mono z1)).trans (Stp.of_below (hbu.mono (Nat.le_trans z1 hsz)))
         have hm2 := (hm1.below hbu).mono (show q + ctEs (l.take k) + ctE x + ctE y ≤ q + ctEs (l.take k) + (1 + (ctE x + ctE y)) by omega)
         obtain ⟨_, _, _, _, l5, l6⟩ := hm1.lts
         have hnx : Nd (Gx (w1.alloc (.cells #[.pointer none, .pointer (some ⟨bm, 0, none⟩), .int .i32 ln, .int .i32 1, .iface T1 (.pointer (some ⟨b1, 0, none⟩)), .pointer (some ⟨bm, 0, none⟩), .int .i32 ln, .int .i32 1, .iface Tx (.pointer (some ⟨bx, 0, none⟩))] 148)) (wr.alloc (.cells #[.int .i64 21, .int .i64 op, .string tx, .int .i64 v.kd, .bool v.nb, .slice ma v.ms.length mc, .int .u64 v.ub, .string v.tx, .slice ka v.kn kc, .slice (some ⟨rb, ro, none⟩) 2 sc, .slice pa 0 pc] 75)).heap.size [bi2, bf2]) (.iface T1 (.pointer (some ⟨b1, 0, none⟩))) (nmE x) n1 := (HNA.out.mono (Gx.stp hs1 z2 [])).mono (Gx.below hbu)
         have hny : Nd (Gx (w1.alloc (.cells #[.pointer none, .pointer (some ⟨bm, 0, none⟩), .int .i32 ln, .int .i32 1, .iface T1 (.pointer (some ⟨b1, 0, none⟩)), .pointer (some ⟨bm, 0, none⟩), .int .i32 ln, .int .i32 1, .iface Tx (.pointer (some ⟨bx, 0, none⟩))] 148)) (wr.alloc (.cells #[.int .i64 21, .int .i64 op, .string tx, .int .i64 v.kd, .bool v.nb, .slice ma v.ms.length mc, .int .u64 v.ub, .string v.tx, .slice ka v.kn kc, .slice (some ⟨rb, ro, none⟩) 2 sc, .slice pa 0 pc] 75)).heap.size [bi2, bf2]) (.iface Tx (.pointer (some ⟨bx, 0, none⟩))) (nmE y) cx := (hn1.mono (Gx.below hbu)).mono (Gx.le z1 fun b _ _ h3 => ⟨h3, rfl⟩)
         have hn2 : Nd (Gx (w1.alloc (.cells #[.pointer none, .pointer (some ⟨bm, 0, none⟩), .int .i32 ln, .int .i32 1, .iface T1 (.pointer (some ⟨b1, 0, none⟩)), .pointer (some ⟨bm, 0, none⟩), .int .i32 ln, .int .i32 1, .iface Tx (.pointer (some ⟨bx, 0, none⟩))] 148)) (wr.alloc (.cells #[.int .i64 21, .int .i64 op, .string tx, .int .i64 v.kd, .bool v.nb, .slice ma v.ms.length mc, .int .u64 v.ub, .string v.tx, .slice ka v.kn kc, .slice (some ⟨rb, ro, none⟩) 2 sc, .slice pa 0 pc] 75)).heap.size [bi2, bf2]) (.iface 146 (.pointer (some ⟨w1.heap.size, 0, none⟩))) (nmE x ++ nmE y) (n1 + cx + 1) :=
           .node _ 148 [(4, .x), (8, .x)] (by simp [tbl]) _ _ (Gx.of hxn (Nat.le_trans z1 hsz) (by simp; omega)) _ (.x 4 _ _ _ rfl (.x 8 _ _ _ rfl .nil)) _ _ ((Nds.one hnx).append (Nds.one hny))
         have hb2 : Below (w1.alloc (.cells #[.pointer none, .pointer (some ⟨bm, 0, none⟩), .int .i32 ln, .int .i32 1, .iface T1 (.pointer (some ⟨b1, 0, none⟩)), .pointer (some ⟨bm, 0, none⟩), .int .i32 ln, .int .i32 1, .iface Tx (.pointer (some ⟨bx, 0, none⟩))] 148)).heap.size (w1.alloc (.cells #[.pointer none, .pointer (some ⟨bm, 0, none⟩), .int .i32 ln, .int .i32 1, .iface T1 (.pointer (some ⟨b1, 0, none⟩)), .pointer (some ⟨bm, 0, none⟩), .int .i32 ln, .int .i32 1, .iface Tx (.pointer (some ⟨bx, 0, none⟩))] 148)) ((w1.alloc (.cells #[.pointer none, .pointer (some ⟨bm, 0, none⟩), .int .i32 ln, .int .i32 1, .iface T1 (.pointer (some ⟨b1, 0, none⟩)), .pointer (some ⟨bm, 0, none⟩), .int .i32 ln, .int .i32 1, .iface Tx (.pointer (some ⟨bx, 0, none⟩))] 148)).alloc (.cells #[(.iface 146 (.pointer (some ⟨w1.heap.size, 0, none⟩)))] 55)) := (Below.refl _ _).alloc (Nat.le_refl _) _
         have OWN2 := own_below OWN1 hbu
         have OWN3 := own_below OWN2 hb2
         refine ⟨OWN2, hp1, he1, hO1, Nat.le_trans z3 (Nat.le_trans z1 hsz), fun v3 w3 h1 h2 h3 => ?_⟩
         have hp3 := (((hp1.alloc (.cells #[.pointer none, .pointer (some ⟨bm, 0, none⟩), .int .i32 ln, .int .i32 1, .iface T1 (.pointer (some ⟨b1, 0, none⟩)), .pointer (some ⟨bm, 0, none⟩), .int .i32 ln, .int .i32 1, .iface Tx (.pointer (some ⟨bx, 0, none⟩))] 148)).alloc (.cells #[(.iface 146 (.pointer (some ⟨w1.heap.size, 0, none⟩)))] 55)).far_own OWN3 (by decide) h2)
         have he3 := (((he1.alloc (.cells #[.pointer none, .pointer (some ⟨bm, 0, none⟩), .int .i32 ln, .int .i32 1, .iface T1 (.pointer (some ⟨b1, 0, none⟩)), .pointer (some ⟨bm, 0, none⟩), .int .i32 ln, .int .i32 1, .iface Tx (.pointer (some ⟨bx, 0, none⟩))] 148)).alloc (.cells #[(.iface 146 (.pointer (some ⟨w1.heap.size, 0, none⟩)))] 55)).far_own OWN3 (by decide) h2)
         have rel := MLRel.step HT.out (by omega) HOWN.out HSTP.out HMK.out HNDS.out HC.out HRO.out HB0.out hs2 hm2 hn2 (by omega) hb2 h2 h1 h3 (by rw [nmEs_append, HET.out]; simp [nmE_mk]) (by rw [ctEs_append, HET.out]; simp [ctE_mk])
         obtain ⟨bi5, bf5, hs5⟩ := rel.stp
         exact ⟨⟨rel, Li hp3⟩, hp3, he3, HO.out.below ((hs5.below (H := H) (by omega) (by omega) (by omega) (by omega)).mono hBH)⟩)
       clear hrd hxv' hsa1 hma hna hpa hea hzd
       have i0 : (0 : Int) ≤ 1 := by omega
       go_upto_region 8 with fail
       go_region_held3 (fun W => W.cell? ⟨pb, 0, none⟩ = some (.pointer (some ⟨bm, 0, none⟩)) ∧ W.cell? ⟨pb, 1, none⟩ = some (.int .i32 ln) ∧ W.cell? ⟨pb, 2, none⟩ = some (.int .i32 1) ∧ W.cell? ⟨wr.heap.size, 9, none⟩ = some (.slice (some ⟨rb, ro, none⟩) 2 sc) ∧ W.cell? ⟨rb, ro + 11, none⟩ = some (.int .i64 kd') ∧ W.cell? ⟨rb, ro + 12, none⟩ = some (.int .i64 op') ∧ W.cell? ⟨rb, ro + 13, none⟩ = some (.string tx') ∧ W.cell? ⟨rb, ro + 14, none⟩ = some (.int .i64 v'.kd) ∧ W.cell? ⟨rb, ro + 15, none⟩ = some (.bool v'.nb) ∧ W.cell? ⟨rb, ro + 16, none⟩ = some (.slice ma' v'.ms.length mc') ∧ W.cell? ⟨rb, ro + 17, none⟩ = some (.int .u64 v'.ub) ∧ W.cell? ⟨rb, ro + 18, none⟩ = some (.string v'.tx) ∧ W.cell? ⟨rb, ro + 19, none⟩ = some (.slice ka' v'.kn kc') ∧ W.cell? ⟨rb, ro + 20, none⟩ = some (.slice sa' ca'.length sc') ∧ W.cell? ⟨rb, ro + 21, none⟩ = some (.slice pa' cb'.length pc')) (with_reducible first | exact KS.out _ HPA.out HEA.out HOA.out | exact KS.out _ HP1.out HE1.out HO1.out | exact KS.out _ (HP1.out.alloc _) (HE1.out.alloc _) (HO1.out.alc _) | exact KS.out _ ((HP1.out.alloc _).alloc _) ((HE1.out.alloc _).alloc _) ((HO1.out.alc _).alc _) | exact KS.out _ HP3.out HE3.out HO3.out)
         ((first
           | (go_at_call 45; (with_reducible refine MX.out.mono ?_); rintro e w1 ⟨Tx, bx, cx, bi2, bf2, rfl, hs1, hm1, hn1, hcx⟩; obtain ⟨ow2, hp1, he1, ho1, hw1, stp⟩ := STEPD.out w1 Tx bx cx bi2 bf2 hs1 hm1 hn1 hcx; have OW2 := Li (ow2.alloc (.cells #[(.iface 146 (.pointer (some ⟨w1.heap.size, 0, none⟩)))] 55)); have HP1 := Li hp1; have HE1 := Li he1; have HO1 := Li ho1; have STP := Li stp; have HW1 := Li hw1; clear hs1 hm1 hn1 ow2 hp1 he1 stp hw1 ho1 hcx)
           | (refine step_append_to _ rfl (.tmp 35) (.tmp 48) 81 rfl w.heap.size 55 iE _ 16 Tryz.underlying81 hiE hzE hsE hbE rfl u4 k _ rfl OW2.out _ _ _ rfl (Sl.one _ _ _ (by simp)) (by intro u hu; simp at hu; subst hu; rfl) (by unfold maxLen; simp; omega) (by simp; omega) (by have := HW1.out; simp; omega) ?_; intro v3 w3 g1 g2 g3; obtain ⟨fs, hp3, he3, ho3⟩ := STP.out v3 w3 g1 g2 g3; have FS := Li fs; have HP3 := Li hp3; have HE3 := Li he3; have HO3 := Li ho3; clear g1 g2 g3 fs hp3 he3 ho3)
           | fail))
       go_wp2_with fail
       go_roundw
       case rel => first | exact FS.out | ((repeat apply Exists.intro); exact ⟨FS.out, rfl⟩)
       case measure => simp [intOf]; omega
   · obtain rfl : k = l.length := by omega
     have FIN := Li (MLRel.fin HOWN.out HSTP.out HMK.out HNDS.out HC.out HRO.out)
     clear HOWN HSTP HMK HNDS HC HRO
     go_wp2_with fail
     go_ret
     exact FIN.out
end Go.Proofs.YtoojgjhfmmohbaaGreat
