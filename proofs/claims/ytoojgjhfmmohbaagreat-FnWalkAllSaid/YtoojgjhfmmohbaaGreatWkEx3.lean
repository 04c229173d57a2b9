/- maker.expr: a dict (printed by genwkdict.py). -/
import Derived.Test.YtoojgjhfmmohbaaGreatWkEx2
import Derived.Test.YtoojgjhfmmohbaaGreatMSlc
namespace Go.Proofs.YtoojgjhfmmohbaaGreat
open Go.RowKit Dig
set_option linter.unusedVariables false
set_option linter.unusedSimpArgs false
set_option maxRecDepth 100000
structure DiAt (H bm bi bf q xb pb eb : Nat) (ln : Int) (EE : List Value) (w : World) (l : List Tr) (k m : Nat) (v : Value) (vs : List Value) (c bi' bf' : Nat) (wr : World) : Prop where
 hx : Blk wr xb 154 [.pointer none, .pointer (some ⟨bm, 0, none⟩), .int .i32 ln, .int .i32 1, v, .pointer (some ⟨bm, 0, none⟩), .int .i32 ln, .int .i32 1]
 hp : Blk wr pb 63 [.pointer (some ⟨bm, 0, none⟩), .int .i32 ln, .int .i32 1]
 he : Blk wr eb 75 EE
 ho : wr.ownsRow w.heap.size 93 1 v k vs
 hs : Stp w.heap.size w wr bm bi bf bi' bf'
 hm : MK wr H bm bi' bf' (q + m)
 hns : Nds (Gx wr w.heap.size (bi' :: bf' :: xb :: v.ownBlock.toList)) vs (nmEs (l.take (2 * k))) c
 hc : c ≤ 3 * ctEs (l.take (2 * k))
 hr : ∀ r, v.ownBlock = some r → r ≠ bm ∧ r ≠ bi' ∧ r ≠ bf'
 hb : w.heap.size ≤ xb
 hl : bm < w.heap.size
section
variable {H bm bi bf q xb pb eb : Nat} {ln : Int} {EE : List Value} {w : World} {l : List Tr} {k m : Nat} {v : Value} {vs : List Value} {c bi' bf' : Nat} {wr : World}
theorem DiAt.rx (h : DiAt H bm bi bf q xb pb eb ln EE w l k m v vs c bi' bf' wr) : ∀ r, v.ownBlock = some r → r ≠ xb ∧ r ≠ pb ∧ r ≠ eb ∧ w.heap.size ≤ r ∧ r < wr.heap.size := fun r hr =>
 ⟨fun e => own_other h.ho h.hx (by decide) (by rw [hr, e]), fun e => own_other h.ho h.hp (by decide) (by rw [hr, e]), fun e => own_other h.ho h.he (by decide) (by rw [hr, e]), h.ho.lt r hr⟩
theorem DiAt.keep (h : DiAt H bm bi bf q xb pb eb ln EE w l k m v vs c bi' bf' wr) {w2 : World} {m' bi2 bf2 : Nat} (hs : Stp wr.heap.size wr w2 bm bi' bf' bi2 bf2) (hm : MK w2 H bm bi2 bf2 (q + m')) : DiAt H bm bi bf q xb pb eb ln EE w l k m' v vs c bi2 bf2 w2 := by
 obtain ⟨n1, n2, n3⟩ := h.hm.ne h.hx (by decide) (by decide) (by decide)
 obtain ⟨a1, a2, a3⟩ := h.hm.ne h.hp (by decide) (by decide) (by decide)
 obtain ⟨b1, b2, b3⟩ := h.hm.ne h.he (by decide) (by decide) (by decide)
 have hg := Gx.stp hs h.hl (xb :: v.ownBlock.toList)
 refine ⟨(hs.blk h.hx h.hx.lt n1 n2 n3).1, (hs.blk h.hp h.hp.lt a1 a2 a3).1, (hs.blk h.he h.he.lt b1 b2 b3).1, hs.own h.ho (fun r hr => ⟨(h.rx r hr).2.2.2.2, h.hr r hr⟩), h.hs.trans (hs.mono h.hs.size), hm, h.hns.mono hg, h.hc, fun r hr => ?_, h.hb, h.hl⟩
 have h1 := h.hr r hr
 have h2 := (h.rx r hr).2.2.2.2
 refine ⟨h1.1, ?_, ?_⟩
 · rcases hs.hi with e | e <;> omega
 · rcases hs.hf with e | e <;> omega
theorem DiAt.put (h : DiAt H bm bi bf q xb pb eb ln EE w l k m v vs c bi' bf' wr) {w3 : World} {v1 v3 : Value} {c1 : Nat} {t1 t2 : Tr} (ht1 : l[2 * k]? = some t1) (ht2 : l[2 * k + 1]? = some t2) (hv : Nd (Gx wr w.heap.size (bi' :: bf' :: xb :: v.ownBlock.toList)) v1 (nmE t1 ++ nmE t2) c1) (hc1 : c1 ≤ 3 * (ctE t1 + ctE t2))
   (hg : wr.grownBy w3 v.ownBlock) (ho3 : w3.ownsRow w.heap.size 93 1 v3 (k + 1) (vs ++ [v1])) (hv3 : v3.ownBlock = v.ownBlock ∨ v3.ownBlock = some wr.heap.size) :
   DiAt H bm bi bf q xb pb eb ln EE w l (k + 1) m v3 (vs ++ [v1]) (c + c1) bi' bf' (w3.setCell ⟨xb, 4, none⟩ v3) := by
 obtain ⟨n1, n2, n3⟩ := h.hm.ne h.hx (by decide) (by decide) (by decide)
 have hrx := h.rx
 have hml := h.hm.lts
 have hxl := h.hx.lt
 have hpl := h.hp.lt
 have hel := h.he.lt
 have hgb : ∀ b, b < wr.heap.size → v.ownBlock ≠ some b → w3.heap[b]? = wr.heap[b]? := fun b hb hne => hg.block b hb (fun e => hne e.symm)
 have hgk : ∀ {b e} {L : List Value}, Blk wr b e L → v.ownBlock ≠ some b → Blk w3 b e L := fun hk hne => (hgb _ hk.lt hne).trans hk
 have hx3 : Blk w3 xb 154 [.pointer none, .pointer (some ⟨bm, 0, none⟩), .int .i32 ln, .int .i32 1, v, .pointer (some ⟨bm, 0, none⟩), .int .i32 ln, .int .i32 1] := hgk h.hx (fun e => (hrx _ e).1 rfl)
 have hp3 := hgk h.hp (fun e => (hrx _ e).2.1 rfl)
 have he3 := hgk h.he (fun e => (hrx _ e).2.2.1 rfl)
 have hm3 : MK w3 H bm bi' bf' (q + m) := h.hm.same (hgb _ (by omega) (fun e => (h.hr _ e).1 rfl)) (hgb _ (by omega) (fun e => (h.hr _ e).2.1 rfl)) (hgb _ (by omega) (fun e => (h.hr _ e).2.2 rfl))
 have hs3 : Stp w.heap.size w w3 bm bi bf bi' bf' := h.hs.trans ⟨hg.os, hg.tape, hg.output, hg.size, fun b hb _ _ _ => hgb b (by have := h.hs.size; omega) (fun e => by have := (hrx b e).2.2.2.1; omega), .inl rfl, .inl rfl⟩
 have hxv3 : v3.ownBlock ≠ some xb := own_other ho3 hx3 (by decide)
 have hG : GLe (Gx wr w.heap.size (bi' :: bf' :: xb :: v.ownBlock.toList)) (Gx (w3.setCell ⟨xb, 4, none⟩ v3) w.heap.size (bi' :: bf' :: xb :: v3.ownBlock.toList)) := Gx.le (Nat.le_refl _) fun b h1 h2 h3 => by
   simp only [List.mem_cons, not_or] at h3 ⊢
   have hne : v.ownBlock ≠ some b := fun e => h3.2.2.2 (by rw [e]; simp)
   refine ⟨⟨h3.1, h3.2.1, h3.2.2.1, ?_⟩, (Below.heap_setCell w3 _ v3 b (by show b ≠ xb; exact h3.2.2.1)).trans (hgb b h2 hne)⟩
   rcases hv3 with e | e
   · rw [e]; exact h3.2.2.2
   · rw [e]; simp; omega
 have hset : w3.grownBy (w3.setCell ⟨xb, 4, none⟩ v3) (some xb) := ⟨rfl, rfl, rfl, by simp [World.setCell], fun b _ hne => Below.heap_setCell w3 ⟨xb, 4, none⟩ _ b (fun e => hne (by rw [e]))⟩
 have na : pb ≠ xb := by rintro rfl; exact absurd (h.hx.inj h.hp).1 (by decide)
 have ne : eb ≠ xb := by rintro rfl; exact absurd (h.hx.inj h.he).1 (by decide)
 have htk : l.take (2 * (k + 1)) = l.take (2 * k) ++ [t1] ++ [t2] := by
   rw [show 2 * (k + 1) = 2 * k + 1 + 1 by omega, take_succ_of ht2, take_succ_of ht1]
 refine ⟨hx3.set 4 v3, hp3.far na v3, he3.far ne v3, ho3.kept hset (.inr hxv3), hs3.set_far h.hb, hm3.set_far n1 n2 n3, ?_, ?_, ?_, h.hb, h.hl⟩
 · rw [htk, nmEs_append, nmEs_append]
   have := Nds.append (h.hns.mono hG) (Nds.one (hv.mono hG))
   simpa using this
 · rw [htk, ctEs_append, ctEs_append]
   have := h.hc
   simp; omega
 · intro r hr3
   rcases hv3 with e | e
   · rw [e] at hr3
     exact h.hr r hr3
   · rw [e] at hr3
     injection hr3 with hr3
     omega
theorem DiAt.more (h : DiAt H bm bi bf q xb pb eb ln EE w l k m v vs c bi' bf' wr) {w2 WV : World} {m' bi2 bf2 : Nat} {v1 : Value} {c1 : Nat} {t1 t2 : Tr} (ht1 : l[2 * k]? = some t1) (ht2 : l[2 * k + 1]? = some t2) (hs : Stp wr.heap.size wr w2 bm bi' bf' bi2 bf2) (hm : MK w2 H bm bi2 bf2 (q + m')) (hb : Below w2.heap.size w2 WV)
   (hv : Nd (Gx WV wr.heap.size [bi2, bf2]) v1 (nmE t1 ++ nmE t2) c1) (hc1 : c1 ≤ 3 * (ctE t1 + ctE t2)) :
   WV.ownsRow w.heap.size 93 1 v k vs ∧ w.heap.size ≤ w2.heap.size ∧ (∀ W, Below w2.heap.size w2 W → W.cell? ⟨xb, 4, none⟩ = some v) ∧ ∀ v3 w3, w3.ownsRow w.heap.size 93 1 v3 (k + 1) (vs ++ [v1]) → WV.grownBy w3 v.ownBlock → (v3.ownBlock = v.ownBlock ∨ v3.ownBlock = some WV.heap.size) →
     DiAt H bm bi bf q xb pb eb ln EE w l (k + 1) m' v3 (vs ++ [v1]) (c + c1) bi2 bf2 (w3.setCell ⟨xb, 4, none⟩ v3) ∧ (∀ b e L, Blk w2 b e L → e ≠ 93 → b ≠ xb → Blk w3 b e L ∧ Blk (w3.setCell ⟨xb, 4, none⟩ v3) b e L) ∧ w3.cell? ⟨xb, 4, none⟩ = some v ∧ w3.frozen? ⟨xb, 4, none⟩ = false ∧ Stp w.heap.size w w3 bm bi bf bi2 bf2 := by
 have h1 := h.keep hs hm
 have h2 := h1.keep (Stp.of_below hb) (hm.below hb)
 refine ⟨h2.ho, h1.hs.size, fun W hW => (h1.hx.below hW h1.hx.lt).cell 4 (by simp), fun v3 w3 g1 g2 g3 => ?_⟩
 have hvn : Nd (Gx WV w.heap.size (bi2 :: bf2 :: xb :: v.ownBlock.toList)) v1 (nmE t1 ++ nmE t2) c1 := hv.mono (Gx.le h.hs.size fun b e1 e2 e3 => by
   simp only [List.mem_cons, List.mem_nil_iff, or_false, not_or] at e3 ⊢
   have := h.hx.lt
   refine ⟨⟨e3.1, e3.2, by omega, fun hb => ?_⟩, trivial⟩
   rw [Option.mem_toList] at hb
   have := (h.rx b hb).2.2.2.2
   omega)
 have hx3 : Blk w3 xb 154 _ := h2.hx.far_own h2.ho (by decide) g2
 refine ⟨h2.put ht1 ht2 hvn hc1 g2 g1 g3, fun b e L hk hne hbx => ?_, hx3.cell 4 (by simp), hx3.free 4, ?_⟩
 · have hk3 := (hk.below hb hk.lt).far_own h2.ho hne g2
   exact ⟨hk3, hk3.far hbx v3⟩
 · exact h2.hs.trans ⟨g2.os, g2.tape, g2.output, g2.size, fun b hb _ _ _ => g2.block b (by have := h2.hs.size; omega) (fun e => by have := (h2.rx b e.symm).2.2.2.1; omega), .inl rfl, .inl rfl⟩
theorem DiAt.fin (h : DiAt H bm bi bf q xb pb eb ln EE w l k m v vs c bi' bf' wr) {n : Nat} {ns : List ByteArray} (hk : 2 * k = l.length) (hn : n = 1 + ctEs l) (hm : m ≤ n) (hns : ns = nmEs l) : MPost H bm bi bf q n ns w (.returned (.iface 152 (.pointer (some ⟨xb, 0, none⟩)))) wr := by
 obtain ⟨n1, n2, n3⟩ := h.hm.ne h.hx (by decide) (by decide) (by decide)
 have hg : GLe (Gx wr w.heap.size (bi' :: bf' :: xb :: v.ownBlock.toList)) (Gx wr w.heap.size [bi', bf']) := Gx.le (Nat.le_refl _) fun b _ _ h3 => ⟨by simp only [List.mem_cons, not_or] at h3 ⊢; exact ⟨h3.1, h3.2.1, List.not_mem_nil⟩, rfl⟩
 have hc := h.hc
 have hkk := h.hns.mono hg
 rw [hk, List.take_of_length_le (Nat.le_refl _)] at hc hkk
 have hvl : vs.length = k := by simpa using h.ho.1
 have hrow : RowG (Gx wr w.heap.size [bi', bf']) v vs := by
   have ho := h.ho
   rw [← hvl] at ho
   exact RowG.of_rr ho (fun r hr => ⟨(h.rx r hr).2.2.2.1, by have := h.hr r hr; simp; exact ⟨this.2.1, this.2.2⟩⟩)
 have nd := Nd.node (G := Gx wr w.heap.size [bi', bf']) 152 154 [(4, .s)] (by simp [tbl]) xb _ (Gx.of h.hx h.hb (by simp; omega)) _ (.s 4 _ _ _ _ rfl hrow .nil) _ _ (by rw [List.append_nil]; exact hkk)
 refine ⟨_, xb, _, bi', bf', rfl, h.hs, h.hm.mono (by omega), by rw [hns]; exact nd, by omega⟩
end
def DiRel (H bm bi bf q xb pb eb : Nat) (ln : Int) (EE : List Value) (w : World) (l : List Tr) (i : Value) (wr : World) : Prop :=
 ∃ (k K m : Nat) (v : Value) (vs : List Value) (c bi' bf' : Nat), K ≤ l.length ∧ i = .int .i64 (K : Int) ∧ Hid (K = 2 * k) ∧ Hid (m = ctEs (l.take (2 * k))) ∧ Hid (DiAt H bm bi bf q xb pb eb ln EE w l k m v vs c bi' bf' wr)
set_option maxHeartbeats 6400000 in
theorem mex_k5 {R : Nat → Nat → Option Value} {B H bm : Nat} (op : Int) (tx : ByteArray) (v : VV) (nm : List ByteArray) (a : List Tr) (c d : List Tr) (ma ka sa pa : Option Addr) (mc kc sc pc : Nat) (w : World) (bi bf q : Nat) (IH : ∀ s, SizeOf.sizeOf s < SizeOf.sizeOf (Tr.mk 5 op tx v nm a [] c d) → MEx R B H bm s) (hvr : VaR R v [.int .i64 v.kd, .bool v.nb, .slice ma v.ms.length mc, .int .u64 v.ub, .string v.tx, .slice ka v.kn kc]) (hxa : ExL R a (.slice sa a.length sc)) (hpa : PaL R [] (.slice pa 0 pc)) (vt : ExV R (Tr.mk 5 op tx v nm a [] c d) [.int .i64 5, .int .i64 op, .string tx, .int .i64 v.kd, .bool v.nb, .slice ma v.ms.length mc, .int .u64 v.ub, .string v.tx, .slice ka v.kn kc, .slice sa a.length sc, .slice pa 0 pc]) (ho : Old R B w) (hBH : B ≤ H) (hm : MK w H bm bi bf q) (hq : q + ctE (Tr.mk 5 op tx v nm a [] c d) ≤ 8192) (ok : OkE (Tr.mk 5 op tx v nm a [] c d)) :
   Calls Tryz.prog 45 #[.pointer (some ⟨bm, 0, none⟩), .agg #[.int .i64 5, .int .i64 op, .string tx, .int .i64 v.kd, .bool v.nb, .slice ma v.ms.length mc, .int .u64 v.ub, .string v.tx, .slice ka v.kn kc, .slice sa a.length sc, .slice pa 0 pc]] w (MPost H bm bi bf q (ctE (Tr.mk 5 op tx v nm a [] c d)) (nmE (Tr.mk 5 op tx v nm a [] c d)) w) := by
 obtain ⟨W0, hW0⟩ : ∃ W0, W0 = w.alloc (.cells #[.int .i64 5, .int .i64 op, .string tx, .int .i64 v.kd, .bool v.nb, .slice ma v.ms.length mc, .int .u64 v.ub, .string v.tx, .slice ka v.kn kc, .slice sa a.length sc, .slice pa 0 pc] 75) := ⟨_, rfl⟩
 have hb0 : Below w.heap.size w W0 := by rw [hW0]; exact (Below.refl _ _).alloc (Nat.le_refl _) _
 have hl := hm.lts
 have hO0 : Old R B W0 := ho.below (hb0.mono (by omega))
 have MANY := Li (many_any vt ok hO0 (by have := hb0.size; omega))
 have HB0 := Li hb0
 have HM := Li hm
 have HO := Li ho
 have HV := Li vt
 have HIH := Li IH
 have HOK := Li ok
 have HQ := Li hq
 have HVR := Li hvr
 have HXA := Li hxa
 have HPA := Li hpa
 clear hb0 hO0 hm ho vt IH ok hq hvr hxa hpa
 subst hW0
 go_enter Tryz.func45, Tryz.ntmps45
 go_wp2_with fail
 refine MANY.out.mono ?_
 rintro e w1 ⟨rfl, hb1⟩
 clear MANY
 have WT := Li (want_any H bm bi bf q w1 ((HM.out.below HB0.out).below hb1))
 go_wp2_with fail
 refine WT.out.mono ?_
 rintro e w2 ⟨rfl, hs2, hm2⟩
 clear WT
 have HPOS := Li (pos_any H bm bi bf q w2 hm2)
 go_wp2_with fail
 refine HPOS.out.mono ?_
 rintro e w3 ⟨ln, rfl, hb3⟩
 clear HPOS
 obtain ⟨pb, hpb⟩ : ∃ pb, w3.heap.size = pb := ⟨_, rfl⟩
 obtain ⟨hst, hmp, he, hop, hz3⟩ := mex_head (L := [.int .i64 5, .int .i64 op, .string tx, .int .i64 v.kd, .bool v.nb, .slice ma v.ms.length mc, .int .u64 v.ub, .string v.tx, .slice ka v.kn kc, .slice sa a.length sc, .slice pa 0 pc]) (by decide) (by decide) (by decide) HM.out HO.out hBH hb1 hs2 hm2 hb3 (.cells #[.pointer (some ⟨bm, 0, none⟩), .int .i32 ln, .int .i32 1] 63)
 have hpk : Blk (w3.alloc (.cells #[.pointer (some ⟨bm, 0, none⟩), .int .i32 ln, .int .i32 1] 63)) pb 63 [.pointer (some ⟨bm, 0, none⟩), .int .i32 ln, .int .i32 1] := by rw [← hpb]; exact Blk.new w3 _ _
 have d0 := he.cell 0 (by simp)
 have d2 := he.cell 2 (by simp)
 have HST := Li hst
 have HMP := Li hmp
 have HE := Li he
 have HOP := Li hop
 have HPK := Li hpk
 clear hb1 hs2 hm2 hb3 hst hmp he hop hpk
 obtain ⟨hev, hall⟩ : a.length % 2 = 0 ∧ (∀ t ∈ a, OkE t) := by
   cases HOK.out with
   | many _ _ _ _ _ _ _ _ hk => omega
   | two _ _ _ _ _ _ _ _ _ hk => omega
   | dict _ _ _ _ _ _ _ he h => exact ⟨he, h⟩
 obtain ⟨iE, hiE, hzE, hsE, hbE⟩ := info_parts infoEx
 obtain ⟨a', c', e, hc3, hm3, hrow⟩ := HXA.out.form
 simp only [Value.slice.injEq, true_and] at e
 obtain ⟨rfl, rfl⟩ := e
 unfold maxLen at hm3
 have hml := HM.out.lts
 have hzs := HST.out.size
 have hle : ctEs a + 1 ≤ ctE (Tr.mk 5 op tx v nm a [] c d) := by rw [ctE_mk]; simp; omega
 have hlk := len_le_ctEs (fun t ht => (hall t ht).ct)
 have HLE := Li hle
 have p0 := HPK.out.cell 0 (by simp)
 have p1 := HPK.out.cell 1 (by simp)
 have p2 := HPK.out.cell 2 (by simp)
 have hpz : (w3.alloc (.cells #[.pointer (some ⟨bm, 0, none⟩), .int .i32 ln, .int .i32 1] 63)).heap.size = pb + 1 := by simp [hpb]
 have START : Hid (DiRel H bm bi bf q (pb + 1) pb w.heap.size ln [.int .i64 5, .int .i64 op, .string tx, .int .i64 v.kd, .bool v.nb, .slice ma v.ms.length mc, .int .u64 v.ub, .string v.tx, .slice ka v.kn kc, .slice sa a.length sc, .slice pa 0 pc] w a (.int .i64 0) ((w3.alloc (.cells #[.pointer (some ⟨bm, 0, none⟩), .int .i32 ln, .int .i32 1] 63)).alloc (.cells #[.pointer none, .pointer (some ⟨bm, 0, none⟩), .int .i32 ln, .int .i32 1, .slice none 0 0, .pointer (some ⟨bm, 0, none⟩), .int .i32 ln, .int .i32 1] 154))) := Li (by
   have hbx : Below (w3.alloc (.cells #[.pointer (some ⟨bm, 0, none⟩), .int .i32 ln, .int .i32 1] 63)).heap.size (w3.alloc (.cells #[.pointer (some ⟨bm, 0, none⟩), .int .i32 ln, .int .i32 1] 63)) ((w3.alloc (.cells #[.pointer (some ⟨bm, 0, none⟩), .int .i32 ln, .int .i32 1] 63)).alloc (.cells #[.pointer none, .pointer (some ⟨bm, 0, none⟩), .int .i32 ln, .int .i32 1, .slice none 0 0, .pointer (some ⟨bm, 0, none⟩), .int .i32 ln, .int .i32 1] 154)) := (Below.refl _ _).alloc (Nat.le_refl _) _
   have hx1 : Blk ((w3.alloc (.cells #[.pointer (some ⟨bm, 0, none⟩), .int .i32 ln, .int .i32 1] 63)).alloc (.cells #[.pointer none, .pointer (some ⟨bm, 0, none⟩), .int .i32 ln, .int .i32 1, .slice none 0 0, .pointer (some ⟨bm, 0, none⟩), .int .i32 ln, .int .i32 1] 154)) (w3.alloc (.cells #[.pointer (some ⟨bm, 0, none⟩), .int .i32 ln, .int .i32 1] 63)).heap.size 154 [.pointer none, .pointer (some ⟨bm, 0, none⟩), .int .i32 ln, .int .i32 1, .slice none 0 0, .pointer (some ⟨bm, 0, none⟩), .int .i32 ln, .int .i32 1] := Blk.new (w3.alloc (.cells #[.pointer (some ⟨bm, 0, none⟩), .int .i32 ln, .int .i32 1] 63)) _ _
   rw [hpz] at hx1
   refine ⟨0, 0, 0, .slice none 0 0, [], 0, bi, bf, by omega, rfl, Li rfl, Li (by simp), Li ⟨hx1, HPK.out.alloc _, HE.out.alloc _, World.ownsRow_nil _ _ _ _, HST.out.trans (Stp.of_below (hbx.mono (by omega))), HMP.out.below hbx, ?_, by omega, by simp [Value.ownBlock], by omega, by omega⟩⟩
   simp only [Nat.mul_zero, List.take_zero, nmEs_nil]
   exact .nil)
 have HROW := Li hrow
 have HALL := Li hall
 have HLK := Li hlk
 have HBW := Li hpz
 clear hrow hall hle hlk hpz
 go_wp2_with fail
 go_loopw [10] (DiRel H bm bi bf q (pb + 1) pb w.heap.size ln [.int .i64 5, .int .i64 op, .string tx, .int .i64 v.kd, .bool v.nb, .slice ma v.ms.length mc, .int .u64 v.ub, .string v.tx, .slice ka v.kn kc, .slice sa a.length sc, .slice pa 0 pc] w a) (fun i _ => a.length - (intOf i).toNat)
 case atStart => exact START.out
 case round =>
   obtain ⟨k, K, m, v1, vs, cn, bi', bf', hk, rfl, HKK, HMM, HAT⟩ := hrel
   clear START p0 p1 p2 d0 d2
   by_cases hlt : K < a.length
   · obtain ⟨rb, ro, rfl, hx⟩ := HROW.out (by intro h; rw [h] at hlt; simp at hlt)
     have hlt2 : K + 1 < a.length := by have := HKK.out; omega
     obtain ⟨t1, ht1⟩ : ∃ t, a[K]? = some t := ⟨_, List.getElem?_eq_getElem hlt⟩
     obtain ⟨t2, ht2⟩ : ∃ t, a[K + 1]? = some t := ⟨_, List.getElem?_eq_getElem hlt2⟩
     obtain ⟨kd1, op1, tx1, v11, nm1, ca1, cb1, cc1, cd1, ma1, mc1, ka1, kc1, sa1, sc1, pa1, pc1, et1, hxv1, hrd1⟩ := (hx K t1 ht1).rd
     obtain ⟨kd2, op2, tx2, v12, nm2, ca2, cb2, cc2, cd2, ma2, mc2, ka2, kc2, sa2, sc2, pa2, pc2, et2, hxv2, hrd2⟩ := (hx (K + 1) t2 ht2).rd
     have hwr : Old R B wr.drew := show Old R B wr from HO.out.below ((HAT.out.hs.below (H := H) (by omega) (by omega) (by omega) (by omega)).mono hBH)
     have HATD : Hid (DiAt H bm bi bf q (pb + 1) pb w.heap.size ln [.int .i64 5, .int .i64 op, .string tx, .int .i64 v.kd, .bool v.nb, .slice ma v.ms.length mc, .int .u64 v.ub, .string v.tx, .slice ka v.kn kc, .slice (some ⟨rb, ro, none⟩) a.length sc, .slice pa 0 pc] w a k m v1 vs cn bi' bf' wr.drew) := Li (HAT.out.keep (Stp.refl _ _ _ _ _).drew HAT.out.hm.drew)
     have HKT : Hid (CaK R B bm pb w.heap.size ln [.int .i64 5, .int .i64 op, .string tx, .int .i64 v.kd, .bool v.nb, .slice ma v.ms.length mc, .int .u64 v.ub, .string v.tx, .slice ka v.kn kc, .slice (some ⟨rb, ro, none⟩) a.length sc, .slice pa 0 pc] wr.drew) := Li ⟨HATD.out.hp, HATD.out.he, hwr⟩
     have hle2 : ctEs (a.take K) + (ctE t1 + ctE t2) ≤ ctEs a := by
       have e : a = (a.take K ++ [t1] ++ [t2]) ++ a.drop (K + 1 + 1) := by rw [← take_succ_of ht1, ← take_succ_of ht2, List.take_append_drop]
       have := congrArg ctEs e
       simp only [ctEs_append, ctEs_cons, ctEs_nil] at this
       omega
     have hmm : m = ctEs (a.take K) := by rw [HKK.out]; exact HMM.out
     have hqq : q + m + (ctE t1 + ctE t2) ≤ 8192 := by have := HQ.out; have := HLE.out; omega
     have hs1 := List.mem_of_getElem? ht1
     have hs2 := List.mem_of_getElem? ht2
     have MX := Li (entry_any (HIH.out t1 (by have := List.sizeOf_lt_of_mem hs1; simp; omega)) (HIH.out t2 (by have := List.sizeOf_lt_of_mem hs2; simp; omega)) (HALL.out t1 hs1) (HALL.out t2 hs2) _ _ wr.drew bi' bf' (q + m) hxv1 hxv2 hwr hBH HATD.out.hm hqq)
     have ENT := Li (HATD.out.hm.ne HATD.out.he (by decide) (by decide) (by decide))
     have PNT := Li (HATD.out.hm.ne HATD.out.hp (by decide) (by decide) (by decide))
     have hpx : pb ≠ pb + 1 := by omega
     have hex : w.heap.size ≠ pb + 1 := by omega
     have HR1 := Li hrd1
     have HR2 := Li hrd2
     have KS : Hid (∀ W, CaK R B bm pb w.heap.size ln [.int .i64 5, .int .i64 op, .string tx, .int .i64 v.kd, .bool v.nb, .slice ma v.ms.length mc, .int .u64 v.ub, .string v.tx, .slice ka v.kn kc, .slice (some ⟨rb, ro, none⟩) a.length sc, .slice pa 0 pc] W → W.cell? ⟨pb + 1, 4, none⟩ = some v1 → W.cell? ⟨pb + 1, 4, none⟩ = some v1 ∧ W.cell? ⟨w.heap.size, 9, none⟩ = some (.slice (some ⟨rb, ro, none⟩) a.length sc) ∧ W.cell? ⟨rb, ro + K * 11, none⟩ = some (.int .i64 kd1) ∧ W.cell? ⟨rb, ro + K * 11 + 1, none⟩ = some (.int .i64 op1) ∧ W.cell? ⟨rb, ro + K * 11 + 2, none⟩ = some (.string tx1) ∧ W.cell? ⟨rb, ro + K * 11 + 3, none⟩ = some (.int .i64 v11.kd) ∧ W.cell? ⟨rb, ro + K * 11 + 4, none⟩ = some (.bool v11.nb) ∧ W.cell? ⟨rb, ro + K * 11 + 5, none⟩ = some (.slice ma1 v11.ms.length mc1) ∧ W.cell? ⟨rb, ro + K * 11 + 6, none⟩ = some (.int .u64 v11.ub) ∧ W.cell? ⟨rb, ro + K * 11 + 7, none⟩ = some (.string v11.tx) ∧ W.cell? ⟨rb, ro + K * 11 + 8, none⟩ = some (.slice ka1 v11.kn kc1) ∧ W.cell? ⟨rb, ro + K * 11 + 9, none⟩ = some (.slice sa1 ca1.length sc1) ∧ W.cell? ⟨rb, ro + K * 11 + 10, none⟩ = some (.slice pa1 cb1.length pc1) ∧ W.cell? ⟨rb, ro + (K + 1) * 11, none⟩ = some (.int .i64 kd2) ∧ W.cell? ⟨rb, ro + (K + 1) * 11 + 1, none⟩ = some (.int .i64 op2) ∧ W.cell? ⟨rb, ro + (K + 1) * 11 + 2, none⟩ = some (.string tx2) ∧ W.cell? ⟨rb, ro + (K + 1) * 11 + 3, none⟩ = some (.int .i64 v12.kd) ∧ W.cell? ⟨rb, ro + (K + 1) * 11 + 4, none⟩ = some (.bool v12.nb) ∧ W.cell? ⟨rb, ro + (K + 1) * 11 + 5, none⟩ = some (.slice ma2 v12.ms.length mc2) ∧ W.cell? ⟨rb, ro + (K + 1) * 11 + 6, none⟩ = some (.int .u64 v12.ub) ∧ W.cell? ⟨rb, ro + (K + 1) * 11 + 7, none⟩ = some (.string v12.tx) ∧ W.cell? ⟨rb, ro + (K + 1) * 11 + 8, none⟩ = some (.slice ka2 v12.kn kc2) ∧ W.cell? ⟨rb, ro + (K + 1) * 11 + 9, none⟩ = some (.slice sa2 ca2.length sc2) ∧ W.cell? ⟨rb, ro + (K + 1) * 11 + 10, none⟩ = some (.slice pa2 cb2.length pc2)) := Li (fun W h hx => ⟨hx, h.2.1.cell 9 (by simp), and_assoc2 (HR1.out B W h.2.2) (HR2.out B W h.2.2)⟩)
     have KA : Hid (∀ (W : World) (o : Obj), CaK R B bm pb w.heap.size ln [.int .i64 5, .int .i64 op, .string tx, .int .i64 v.kd, .bool v.nb, .slice ma v.ms.length mc, .int .u64 v.ub, .string v.tx, .slice ka v.kn kc, .slice (some ⟨rb, ro, none⟩) a.length sc, .slice pa 0 pc] W → CaK R B bm pb w.heap.size ln [.int .i64 5, .int .i64 op, .string tx, .int .i64 v.kd, .bool v.nb, .slice ma v.ms.length mc, .int .u64 v.ub, .string v.tx, .slice ka v.kn kc, .slice (some ⟨rb, ro, none⟩) a.length sc, .slice pa 0 pc] (W.alloc o)) := Li (fun W o h => h.alloc o)
     have x4 : wr.drew.cell? ⟨pb + 1, 4, none⟩ = some v1 := HATD.out.hx.cell 4 (by simp)
     have HT1 := Li ht1
     have HT2 := Li ht2
     have STEPD : Hid (∀ (w2 : World) (by_ cy bi2 bf2 : Nat), Stp wr.drew.heap.size wr.drew w2 bm bi' bf' bi2 bf2 → MK w2 H bm bi2 bf2 (q + m + (ctE t1 + ctE t2)) → Nd (Gx w2 wr.drew.heap.size [bi2, bf2]) (.iface 134 (.pointer (some ⟨by_, 0, none⟩))) (nmE t1 ++ nmE t2) cy → cy + 1 ≤ 3 * (ctE t1 + ctE t2) →
         (w2.alloc (.cells #[(.iface 134 (.pointer (some ⟨by_, 0, none⟩)))] 93)).ownsRow w.heap.size 93 1 v1 k vs ∧ CaK R B bm pb w.heap.size ln [.int .i64 5, .int .i64 op, .string tx, .int .i64 v.kd, .bool v.nb, .slice ma v.ms.length mc, .int .u64 v.ub, .string v.tx, .slice ka v.kn kc, .slice (some ⟨rb, ro, none⟩) a.length sc, .slice pa 0 pc] w2 ∧ w.heap.size ≤ w2.heap.size ∧ w2.cell? ⟨pb + 1, 4, none⟩ = some v1 ∧ (w2.alloc (.cells #[(.iface 134 (.pointer (some ⟨by_, 0, none⟩)))] 93)).cell? ⟨pb + 1, 4, none⟩ = some v1 ∧
         ∀ v3 w3, w3.ownsRow w.heap.size 93 1 v3 (k + 1) (vs ++ [(.iface 134 (.pointer (some ⟨by_, 0, none⟩)))]) → (w2.alloc (.cells #[(.iface 134 (.pointer (some ⟨by_, 0, none⟩)))] 93)).grownBy w3 v1.ownBlock → (v3.ownBlock = v1.ownBlock ∨ v3.ownBlock = some (w2.alloc (.cells #[(.iface 134 (.pointer (some ⟨by_, 0, none⟩)))] 93)).heap.size) →
           DiRel H bm bi bf q (pb + 1) pb w.heap.size ln [.int .i64 5, .int .i64 op, .string tx, .int .i64 v.kd, .bool v.nb, .slice ma v.ms.length mc, .int .u64 v.ub, .string v.tx, .slice ka v.kn kc, .slice (some ⟨rb, ro, none⟩) a.length sc, .slice pa 0 pc] w a (.int .i64 ((K : Int) + 2)) (w3.setCell ⟨pb + 1, 4, none⟩ v3) ∧ CaK R B bm pb w.heap.size ln [.int .i64 5, .int .i64 op, .string tx, .int .i64 v.kd, .bool v.nb, .slice ma v.ms.length mc, .int .u64 v.ub, .string v.tx, .slice ka v.kn kc, .slice (some ⟨rb, ro, none⟩) a.length sc, .slice pa 0 pc] w3 ∧ CaK R B bm pb w.heap.size ln [.int .i64 5, .int .i64 op, .string tx, .int .i64 v.kd, .bool v.nb, .slice ma v.ms.length mc, .int .u64 v.ub, .string v.tx, .slice ka v.kn kc, .slice (some ⟨rb, ro, none⟩) a.length sc, .slice pa 0 pc] (w3.setCell ⟨pb + 1, 4, none⟩ v3) ∧ w3.cell? ⟨pb + 1, 4, none⟩ = some v1 ∧ w3.frozen? ⟨pb + 1, 4, none⟩ = false) := Li (fun w2 by_ cy bi2 bf2 hs2 hm2 hn2 hcy => by
       have zT := HATD.out.hs.size
       have z2 := hs2.size
       have hb2 : Below w2.heap.size w2 (w2.alloc (.cells #[(.iface 134 (.pointer (some ⟨by_, 0, none⟩)))] 93)) := (Below.refl _ _).alloc (Nat.le_refl _) _
       have hnd := hn2.mono (Gx.below hb2)
       obtain ⟨m1, m2, m3, m4⟩ := HATD.out.more (m' := m + (ctE t1 + ctE t2)) (t1 := t1) (t2 := t2) (by rw [← HKK.out]; exact HT1.out) (by rw [← HKK.out]; exact HT2.out) hs2 (by rw [← Nat.add_assoc]; exact hm2) hb2 hnd (by omega)
       have kk : CaK R B bm pb w.heap.size ln [.int .i64 5, .int .i64 op, .string tx, .int .i64 v.kd, .bool v.nb, .slice ma v.ms.length mc, .int .u64 v.ub, .string v.tx, .slice ka v.kn kc, .slice (some ⟨rb, ro, none⟩) a.length sc, .slice pa 0 pc] w2 := ⟨(hs2.blk HATD.out.hp HATD.out.hp.lt PNT.out.1 PNT.out.2.1 PNT.out.2.2).1, (hs2.blk HATD.out.he HATD.out.he.lt ENT.out.1 ENT.out.2.1 ENT.out.2.2).1, HKT.out.2.2.below ((hs2.below (H := H) (by omega) (by have := HATD.out.hm.lts; omega) (by have := HATD.out.hm.lts; omega) (by omega)).mono hBH)⟩
       refine ⟨m1, kk, m2, m3 _ (Below.refl _ _), m3 _ hb2, fun v3 w3 h1 h2 h3 => ?_⟩
       obtain ⟨p1, p2, p3, p4, p5⟩ := m4 v3 w3 h1 h2 h3
       have ho3 : Old R B w3 := HO.out.below ((p5.below (H := H) (by omega) (by omega) (by omega) (by omega)).mono hBH)
       have ho4 : Old R B (w3.setCell ⟨pb + 1, 4, none⟩ v3) := HO.out.below ((p1.hs.below (H := H) (by omega) (by omega) (by omega) (by omega)).mono hBH)
       have hk2 : 2 * (k + 1) = K + 1 + 1 := by have := HKK.out; omega
       refine ⟨⟨k + 1, K + 2, m + (ctE t1 + ctE t2), v3, _, _, bi2, bf2, by omega, by simp, Li (by omega), Li (by rw [hk2, take_succ_of HT2.out, take_succ_of HT1.out, ctEs_append, ctEs_append, hmm]; simp [Nat.add_assoc]), Li p1⟩, ⟨(p2 _ _ _ kk.1 (by decide) hpx).1, (p2 _ _ _ kk.2.1 (by decide) hex).1, ho3⟩, ⟨(p2 _ _ _ kk.1 (by decide) hpx).2, (p2 _ _ _ kk.2.1 (by decide) hex).2, ho4⟩, p3, p4⟩)
     have i0 : (K : Int) + 1 < (a.length : Int) := by omega
     have i1 : (K : Int) < (a.length : Int) := by omega
     have i2 : (0 : Int) ≤ (K : Int) + 1 := by omega
     have hW1 := Li (show IntKind.i64.wrap ((K : Int) + 1) = (K : Int) + 1 by rw [IntKind.wrap_i64]; omega)
     have hT1 : ((K : Int) + 1).toNat = K + 1 := by omega
     have hW2 := Li (show IntKind.i64.wrap ((K : Int) + 2) = (K : Int) + 2 by rw [IntKind.wrap_i64]; omega)
     have HHM := Li hmm
     have d9 : wr.cell? ⟨w.heap.size, 9, none⟩ = some (.slice (some ⟨rb, ro, none⟩) a.length sc) := HAT.out.he.cell 9 (by simp)
     clear hx hrd1 hrd2 ht1 ht2 hwr hmm hle2 hs1 hs2 et1 et2 hxv1 hxv2 hqq HAT
     have hV1 := hW1.out
     go_upto_region 32 with fail
     refine AnyL.begin 23 (fun W => W.cell? ⟨pb + 1, 4, none⟩ = some v1 ∧ W.cell? ⟨w.heap.size, 9, none⟩ = some (.slice (some ⟨rb, ro, none⟩) a.length sc) ∧ W.cell? ⟨rb, ro + K * 11, none⟩ = some (.int .i64 kd1) ∧ W.cell? ⟨rb, ro + K * 11 + 1, none⟩ = some (.int .i64 op1) ∧ W.cell? ⟨rb, ro + K * 11 + 2, none⟩ = some (.string tx1) ∧ W.cell? ⟨rb, ro + K * 11 + 3, none⟩ = some (.int .i64 v11.kd) ∧ W.cell? ⟨rb, ro + K * 11 + 4, none⟩ = some (.bool v11.nb) ∧ W.cell? ⟨rb, ro + K * 11 + 5, none⟩ = some (.slice ma1 v11.ms.length mc1) ∧ W.cell? ⟨rb, ro + K * 11 + 6, none⟩ = some (.int .u64 v11.ub) ∧ W.cell? ⟨rb, ro + K * 11 + 7, none⟩ = some (.string v11.tx) ∧ W.cell? ⟨rb, ro + K * 11 + 8, none⟩ = some (.slice ka1 v11.kn kc1) ∧ W.cell? ⟨rb, ro + K * 11 + 9, none⟩ = some (.slice sa1 ca1.length sc1) ∧ W.cell? ⟨rb, ro + K * 11 + 10, none⟩ = some (.slice pa1 cb1.length pc1) ∧ W.cell? ⟨rb, ro + (K + 1) * 11, none⟩ = some (.int .i64 kd2) ∧ W.cell? ⟨rb, ro + (K + 1) * 11 + 1, none⟩ = some (.int .i64 op2) ∧ W.cell? ⟨rb, ro + (K + 1) * 11 + 2, none⟩ = some (.string tx2) ∧ W.cell? ⟨rb, ro + (K + 1) * 11 + 3, none⟩ = some (.int .i64 v12.kd) ∧ W.cell? ⟨rb, ro + (K + 1) * 11 + 4, none⟩ = some (.bool v12.nb) ∧ W.cell? ⟨rb, ro + (K + 1) * 11 + 5, none⟩ = some (.slice ma2 v12.ms.length mc2) ∧ W.cell? ⟨rb, ro + (K + 1) * 11 + 6, none⟩ = some (.int .u64 v12.ub) ∧ W.cell? ⟨rb, ro + (K + 1) * 11 + 7, none⟩ = some (.string v12.tx) ∧ W.cell? ⟨rb, ro + (K + 1) * 11 + 8, none⟩ = some (.slice ka2 v12.kn kc2) ∧ W.cell? ⟨rb, ro + (K + 1) * 11 + 9, none⟩ = some (.slice sa2 ca2.length sc2) ∧ W.cell? ⟨rb, ro + (K + 1) * 11 + 10, none⟩ = some (.slice pa2 cb2.length pc2)) (by kernel_rfl) ?_ (fun hHeld => ?_)
     · (try dsimp only)
       with_reducible first | exact KS.out _ HKT.out x4 | exact KS.out _ HK1.out x51 | exact KS.out _ (KA.out _ _ HK1.out) x52 | exact KS.out _ HK3.out x59 | fail
     refine tlA 0 ?_
     refine tlA 1 ?_
     refine tlA 2 ?_
     refine tlA 3 ?_
     refine tlA 4 ?_
     refine tlA 5 ?_
     refine tlA 6 ?_
     refine tlA 7 ?_
     refine tlA 8 ?_
     refine tlA 9 ?_
     refine tlA 10 ?_
     refine tlA 11 ?_
     refine tlA 12 ?_
     refine tlA 13 ?_
     refine tlA 14 ?_
     refine tlA 15 ?_
     refine tlA 16 ?_
     refine AnyL.ready (rs := [17]) (by kernel_rfl) (by simp) ?_
     refine ReadyL.cons (o := _) (by simp only [List.getElem?_toArray, List.getElem?_cons_zero, List.getElem?_cons_succ]; rfl) (fun K hK => ?_) ReadyL.nil
     go_simp
     go_at_call 51
     with_reducible refine MX.out.mono ?_
     rintro e w2 ⟨by_, cy, bi2, bf2, rfl, hs2, hm2, hn2, hcy⟩
     obtain ⟨ow2, hk1, hw2, x51, x52, stp⟩ := STEPD.out w2 by_ cy bi2 bf2 hs2 hm2 hn2 hcy
     have OW2 := Li ow2
     have HK1 := Li hk1
     have STP := Li stp
     have HW2 := Li hw2
     clear hs2 hm2 hn2 hcy ow2 hk1 hw2 stp
     refine hK.out _ _ ?_ (fun hHeld => ?_)
     · (try dsimp only)
       with_reducible first | exact KS.out _ HKT.out x4 | exact KS.out _ HK1.out x51 | exact KS.out _ (KA.out _ _ HK1.out) x52 | exact KS.out _ HK3.out x59 | fail
     clear hK K
     try simp only [Act.put, sA, s0, s1]
     refine tlA 18 ?_
     refine AnyL.ready (rs := [19]) (by kernel_rfl) (by simp) ?_
     refine ReadyL.cons (o := _) (by simp only [List.getElem?_toArray, List.getElem?_cons_zero, List.getElem?_cons_succ]; rfl) (fun K hK => ?_) ReadyL.nil
     go_simp
     refine hK.out _ _ ?_ (fun hHeld => ?_)
     · (try dsimp only)
       with_reducible first | exact KS.out _ HKT.out x4 | exact KS.out _ HK1.out x51 | exact KS.out _ (KA.out _ _ HK1.out) x52 | exact KS.out _ HK3.out x59 | fail
     clear hK K
     try simp only [Act.put, sA, s0, s1]
     refine AnyL.ready (rs := [20]) (by kernel_rfl) (by simp) ?_
     refine ReadyL.cons (o := _) (by simp only [List.getElem?_toArray, List.getElem?_cons_zero, List.getElem?_cons_succ]; rfl) (fun K hK => ?_) ReadyL.nil
     refine step_append_to _ rfl (.tmp 143) (.tmp 158) 106 rfl w.heap.size 93 iE _ 16 Tryz.underlying106 hiE hzE hsE hbE rfl v1 k _ rfl OW2.out _ _ _ rfl (Sl.one _ _ _ (by simp)) (by intro u hu; simp at hu; subst hu; rfl) (by have := HKK.out; unfold maxLen; simp; omega) (by have := HKK.out; have := HLK.out; have := HLE.out; have := HQ.out; simp; omega) (by have := HW2.out; simp; omega) ?_
     intro v3 w3 g1 g2 g3
     obtain ⟨a3, cc3, rfl⟩ := own_form g1
     obtain ⟨fs, hk3, hk4, x59, xf3⟩ := STP.out _ w3 g1 g2 g3
     have FS := Li fs
     have HK3 := Li hk3
     clear g1 g2 g3 fs hk3 hk4
     refine hK.out _ _ ?_ (fun hHeld => ?_)
     · (try dsimp only)
       with_reducible first | exact KS.out _ HKT.out x4 | exact KS.out _ HK1.out x51 | exact KS.out _ (KA.out _ _ HK1.out) x52 | exact KS.out _ HK3.out x59 | fail
     clear hK K
     try simp only [Act.put, sA, s0, s1]
     refine AnyL.ready (rs := [21]) (by kernel_rfl) (by simp) ?_
     refine ReadyL.cons (o := _) (by simp only [List.getElem?_toArray, List.getElem?_cons_zero, List.getElem?_cons_succ]; rfl) (fun K hK => ?_) ReadyL.nil
     go_simp
     refine hK.out _ _ ?_ (fun hHeld => ?_)
     · (try dsimp only)
       with_reducible first | exact KS.out _ HKT.out x4 | exact KS.out _ HK1.out x51 | exact KS.out _ (KA.out _ _ HK1.out) x52 | exact KS.out _ HK3.out x59 | fail
     clear hK K
     try simp only [Act.put, sA, s0, s1]
     refine tlA 22 ?_
     refine AnyL.ready (rs := [23]) (by kernel_rfl) (by simp) ?_
     refine ReadyL.last (o := _) (by simp only [List.getElem?_toArray, List.getElem?_cons_zero, List.getElem?_cons_succ]; rfl) (fun K hK => ?_)
     go_simp
     refine hK.out _ _ ?_
     clear hK K
     refine AnyL.done (by kernel_rfl) ?_ _
     try simp only [Act.put, sA, s0, s1]
     clear hV1
     have hV2 := hW2.out
     go_wp2_with fail
     go_roundw
     case rel => first | exact FS.out | ((repeat apply Exists.intro); exact ⟨FS.out, rfl⟩)
     case measure =>
       clear hV2
       simp [intOf]; omega
   · obtain rfl : K = a.length := by omega
     have d9 := HAT.out.he.cell 9 (by simp)
     have hka : 2 * k = a.length := HKK.out.symm
     have FIN := Li (HAT.out.fin (n := ctE (Tr.mk 5 op tx v nm a [] c d)) (ns := nmE (Tr.mk 5 op tx v nm a [] c d)) hka (by rw [ctE_mk]; simp) (by have := HMM.out; rw [hka, List.take_of_length_le (Nat.le_refl _)] at this; have := HLE.out; omega) (by rw [nmE_mk]; simp))
     clear HAT HMM hka HKK
     go_wp2_with fail
     go_ret
     exact FIN.out
end Go.Proofs.YtoojgjhfmmohbaaGreat
