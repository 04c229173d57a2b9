/- maker.call (printed by genwkcall.py). -/
import Derived.Test.YtoojgjhfmmohbaaGreatMSlc
import Derived.Test.YtoojgjhfmmohbaaGreatMFitc
namespace Go.Proofs.YtoojgjhfmmohbaaGreat
open Go.RowKit Dig
set_option linter.unusedVariables false
set_option linter.unusedSimpArgs false
set_option maxRecDepth 100000
structure CaAt (H bm bi bf q xb pb eb : Nat) (ln : Int) (X1 : Value) (nx : Nat) (EE : List Value) (w : World) (f : Tr) (l : List Tr) (k m : Nat) (v : Value) (vs : List Value) (c bi' bf' : Nat) (wr : World) : Prop where
 hx : Blk wr xb 166 [.pointer none, X1, .pointer (some ⟨bm, 0, none⟩), .int .i32 ln, .int .i32 1, v, .pointer (some ⟨bm, 0, none⟩), .int .i32 ln, .int .i32 1]
 hp : Blk wr pb 63 [.pointer (some ⟨bm, 0, none⟩), .int .i32 ln, .int .i32 1]
 he : Blk wr eb 75 EE
 ho : wr.ownsRow w.heap.size 93 1 v k vs
 hs : Stp w.heap.size w wr bm bi bf bi' bf'
 hm : MK wr H bm bi' bf' (q + m)
 hn : Nd (Gx wr w.heap.size (bi' :: bf' :: xb :: v.ownBlock.toList)) X1 (nmE f) nx
 hns : Nds (Gx wr w.heap.size (bi' :: bf' :: xb :: v.ownBlock.toList)) vs (nmEs (l.take k)) c
 hc : c ≤ 3 * ctEs (l.take k)
 hcx : nx + 1 ≤ 3 * ctE f
 hr : ∀ r, v.ownBlock = some r → r ≠ bm ∧ r ≠ bi' ∧ r ≠ bf'
 hb : w.heap.size ≤ xb
 hl : bm < w.heap.size
section
variable {H bm bi bf q xb pb eb : Nat} {ln : Int} {X1 : Value} {nx : Nat} {EE : List Value} {w : World} {f : Tr} {l : List Tr} {k m : Nat} {v : Value} {vs : List Value} {c bi' bf' : Nat} {wr : World}
theorem CaAt.rx (h : CaAt H bm bi bf q xb pb eb ln X1 nx EE w f l k m v vs c bi' bf' wr) : ∀ r, v.ownBlock = some r → r ≠ xb ∧ r ≠ pb ∧ r ≠ eb ∧ w.heap.size ≤ r ∧ r < wr.heap.size := fun r hr =>
 ⟨fun e => own_other h.ho h.hx (by decide) (by rw [hr, e]), fun e => own_other h.ho h.hp (by decide) (by rw [hr, e]), fun e => own_other h.ho h.he (by decide) (by rw [hr, e]), h.ho.lt r hr⟩
theorem CaAt.keep (h : CaAt H bm bi bf q xb pb eb ln X1 nx EE w f l k m v vs c bi' bf' wr) {w2 : World} {m' bi2 bf2 : Nat} (hs : Stp wr.heap.size wr w2 bm bi' bf' bi2 bf2) (hm : MK w2 H bm bi2 bf2 (q + m')) : CaAt H bm bi bf q xb pb eb ln X1 nx EE w f l k m' v vs c bi2 bf2 w2 := by
 obtain ⟨n1, n2, n3⟩ := h.hm.ne h.hx (by decide) (by decide) (by decide)
 obtain ⟨a1, a2, a3⟩ := h.hm.ne h.hp (by decide) (by decide) (by decide)
 obtain ⟨b1, b2, b3⟩ := h.hm.ne h.he (by decide) (by decide) (by decide)
 have hg := Gx.stp hs h.hl (xb :: v.ownBlock.toList)
 refine ⟨(hs.blk h.hx h.hx.lt n1 n2 n3).1, (hs.blk h.hp h.hp.lt a1 a2 a3).1, (hs.blk h.he h.he.lt b1 b2 b3).1, hs.own h.ho (fun r hr => ⟨(h.rx r hr).2.2.2.2, h.hr r hr⟩), h.hs.trans (hs.mono h.hs.size), hm, h.hn.mono hg, h.hns.mono hg, h.hc, h.hcx, fun r hr => ?_, h.hb, h.hl⟩
 have h1 := h.hr r hr
 have h2 := (h.rx r hr).2.2.2.2
 refine ⟨h1.1, ?_, ?_⟩
 · rcases hs.hi with e | e <;> omega
 · rcases hs.hf with e | e <;> omega
theorem CaAt.put (h : CaAt H bm bi bf q xb pb eb ln X1 nx EE w f l k m v vs c bi' bf' wr) {w3 : World} {v1 v3 : Value} {c1 : Nat} {t : Tr} (ht : l[k]? = some t) (hv : Nd (Gx wr w.heap.size (bi' :: bf' :: xb :: v.ownBlock.toList)) v1 (nmE t) c1) (hc1 : c1 ≤ 3 * ctE t)
   (hg : wr.grownBy w3 v.ownBlock) (ho3 : w3.ownsRow w.heap.size 93 1 v3 (k + 1) (vs ++ [v1])) (hv3 : v3.ownBlock = v.ownBlock ∨ v3.ownBlock = some wr.heap.size) :
   CaAt H bm bi bf q xb pb eb ln X1 nx EE w f l (k + 1) m v3 (vs ++ [v1]) (c + c1) bi' bf' (w3.setCell ⟨xb, 5, none⟩ v3) := by
 obtain ⟨n1, n2, n3⟩ := h.hm.ne h.hx (by decide) (by decide) (by decide)
 have hrx := h.rx
 have hml := h.hm.lts
 have hxl := h.hx.lt
 have hpl := h.hp.lt
 have hel := h.he.lt
 have hgb : ∀ b, b < wr.heap.size → v.ownBlock ≠ some b → w3.heap[b]? = wr.heap[b]? := fun b hb hne => hg.block b hb (fun e => hne e.symm)
 have hgk : ∀ {b e} {L : List Value}, Blk wr b e L → v.ownBlock ≠ some b → Blk w3 b e L := fun hk hne => (hgb _ hk.lt hne).trans hk
 have hx3 : Blk w3 xb 166 [.pointer none, X1, .pointer (some ⟨bm, 0, none⟩), .int .i32 ln, .int .i32 1, v, .pointer (some ⟨bm, 0, none⟩), .int .i32 ln, .int .i32 1] := hgk h.hx (fun e => (hrx _ e).1 rfl)
 have hp3 := hgk h.hp (fun e => (hrx _ e).2.1 rfl)
 have he3 := hgk h.he (fun e => (hrx _ e).2.2.1 rfl)
 have hm3 : MK w3 H bm bi' bf' (q + m) := h.hm.same (hgb _ (by omega) (fun e => (h.hr _ e).1 rfl)) (hgb _ (by omega) (fun e => (h.hr _ e).2.1 rfl)) (hgb _ (by omega) (fun e => (h.hr _ e).2.2 rfl))
 have hs3 : Stp w.heap.size w w3 bm bi bf bi' bf' := h.hs.trans ⟨hg.os, hg.tape, hg.output, hg.size, fun b hb _ _ _ => hgb b (by have := h.hs.size; omega) (fun e => by have := (hrx b e).2.2.2.1; omega), .inl rfl, .inl rfl⟩
 have hxv3 : v3.ownBlock ≠ some xb := own_other ho3 hx3 (by decide)
 have hG : GLe (Gx wr w.heap.size (bi' :: bf' :: xb :: v.ownBlock.toList)) (Gx (w3.setCell ⟨xb, 5, none⟩ v3) w.heap.size (bi' :: bf' :: xb :: v3.ownBlock.toList)) := Gx.le (Nat.le_refl _) fun b h1 h2 h3 => by
   simp only [List.mem_cons, not_or] at h3 ⊢
   have hne : v.ownBlock ≠ some b := fun e => h3.2.2.2 (by rw [e]; simp)
   refine ⟨⟨h3.1, h3.2.1, h3.2.2.1, ?_⟩, (Below.heap_setCell w3 _ v3 b (by show b ≠ xb; exact h3.2.2.1)).trans (hgb b h2 hne)⟩
   rcases hv3 with e | e
   · rw [e]; exact h3.2.2.2
   · rw [e]; simp; omega
 have hset : w3.grownBy (w3.setCell ⟨xb, 5, none⟩ v3) (some xb) := ⟨rfl, rfl, rfl, by simp [World.setCell], fun b _ hne => Below.heap_setCell w3 ⟨xb, 5, none⟩ _ b (fun e => hne (by rw [e]))⟩
 have na : pb ≠ xb := by rintro rfl; exact absurd (h.hx.inj h.hp).1 (by decide)
 have ne : eb ≠ xb := by rintro rfl; exact absurd (h.hx.inj h.he).1 (by decide)
 refine ⟨hx3.set 5 v3, hp3.far na v3, he3.far ne v3, ho3.kept hset (.inr hxv3), hs3.set_far h.hb, hm3.set_far n1 n2 n3, h.hn.mono hG, ?_, ?_, h.hcx, ?_, h.hb, h.hl⟩
 · rw [take_succ_of ht, nmEs_append]
   have := Nds.append (h.hns.mono hG) (Nds.one (hv.mono hG))
   simpa using this
 · rw [take_succ_of ht, ctEs_append]
   have := h.hc
   simp; omega
 · intro r hr3
   rcases hv3 with e | e
   · rw [e] at hr3
     exact h.hr r hr3
   · rw [e] at hr3
     injection hr3 with hr3
     omega
theorem CaAt.more (h : CaAt H bm bi bf q xb pb eb ln X1 nx EE w f l k m v vs c bi' bf' wr) {w2 WV : World} {m' bi2 bf2 lo : Nat} {v1 : Value} {c1 : Nat} {t : Tr} (ht : l[k]? = some t) (hs : Stp wr.heap.size wr w2 bm bi' bf' bi2 bf2) (hm : MK w2 H bm bi2 bf2 (q + m')) (hb : Below w2.heap.size w2 WV)
   (hlo : w.heap.size ≤ lo) (hxlo : xb < lo) (hrlo : ∀ r, v.ownBlock = some r → r < lo) (hv : Nd (Gx WV lo [bi2, bf2]) v1 (nmE t) c1) (hc1 : c1 ≤ 3 * ctE t) :
   WV.ownsRow w.heap.size 93 1 v k vs ∧ w.heap.size ≤ w2.heap.size ∧ (∀ W, Below w2.heap.size w2 W → W.cell? ⟨xb, 5, none⟩ = some v) ∧ ∀ v3 w3, w3.ownsRow w.heap.size 93 1 v3 (k + 1) (vs ++ [v1]) → WV.grownBy w3 v.ownBlock → (v3.ownBlock = v.ownBlock ∨ v3.ownBlock = some WV.heap.size) →
     CaAt H bm bi bf q xb pb eb ln X1 nx EE w f l (k + 1) m' v3 (vs ++ [v1]) (c + c1) bi2 bf2 (w3.setCell ⟨xb, 5, none⟩ v3) ∧ (∀ b e L, Blk w2 b e L → e ≠ 93 → b ≠ xb → Blk w3 b e L ∧ Blk (w3.setCell ⟨xb, 5, none⟩ v3) b e L) ∧ w3.cell? ⟨xb, 5, none⟩ = some v ∧ w3.frozen? ⟨xb, 5, none⟩ = false ∧ Stp w.heap.size w w3 bm bi bf bi2 bf2 := by
 have h1 := h.keep hs hm
 have h2 := h1.keep (Stp.of_below hb) (hm.below hb)
 refine ⟨h2.ho, h1.hs.size, fun W hW => (h1.hx.below hW h1.hx.lt).cell 5 (by simp), fun v3 w3 g1 g2 g3 => ?_⟩
 have hvn : Nd (Gx WV w.heap.size (bi2 :: bf2 :: xb :: v.ownBlock.toList)) v1 (nmE t) c1 := hv.mono (Gx.le hlo fun b e1 e2 e3 => by
   simp only [List.mem_cons, List.mem_nil_iff, or_false, not_or] at e3 ⊢
   refine ⟨⟨e3.1, e3.2, by omega, fun hb => ?_⟩, trivial⟩
   rw [Option.mem_toList] at hb
   have := hrlo b hb
   omega)
 have hx3 : Blk w3 xb 166 _ := h2.hx.far_own h2.ho (by decide) g2
 refine ⟨h2.put ht hvn hc1 g2 g1 g3, fun b e L hk hne hbx => ?_, hx3.cell 5 (by simp), hx3.free 5, ?_⟩
 · have hk3 := (hk.below hb hk.lt).far_own h2.ho hne g2
   exact ⟨hk3, hk3.far hbx v3⟩
 · exact h2.hs.trans ⟨g2.os, g2.tape, g2.output, g2.size, fun b hb _ _ _ => g2.block b (by have := h2.hs.size; omega) (fun e => by have := (h2.rx b e.symm).2.2.2.1; omega), .inl rfl, .inl rfl⟩
theorem CaAt.fin (h : CaAt H bm bi bf q xb pb eb ln X1 nx EE w f l l.length m v vs c bi' bf' wr) {n : Nat} {ns : List ByteArray} (hn : n = 1 + (ctE f + ctEs l)) (hm : m ≤ n) (hns : ns = nmE f ++ nmEs l) : MPost H bm bi bf q n ns w (.returned (.iface 164 (.pointer (some ⟨xb, 0, none⟩)))) wr := by
 obtain ⟨n1, n2, n3⟩ := h.hm.ne h.hx (by decide) (by decide) (by decide)
 have hg : GLe (Gx wr w.heap.size (bi' :: bf' :: xb :: v.ownBlock.toList)) (Gx wr w.heap.size [bi', bf']) := Gx.le (Nat.le_refl _) fun b _ _ h3 => ⟨by simp only [List.mem_cons, not_or] at h3 ⊢; exact ⟨h3.1, h3.2.1, List.not_mem_nil⟩, rfl⟩
 have hcx := h.hcx
 have hc := h.hc
 have hk := h.hns.mono hg
 rw [List.take_of_length_le (Nat.le_refl _)] at hc hk
 have hvl : vs.length = l.length := by simpa using h.ho.1
 have hrow : RowG (Gx wr w.heap.size [bi', bf']) v vs := by
   have ho := h.ho
   rw [← hvl] at ho
   exact RowG.of_rr ho (fun r hr => ⟨(h.rx r hr).2.2.2.1, by have := h.hr r hr; simp; exact ⟨this.2.1, this.2.2⟩⟩)
 have nd := Nd.node (G := Gx wr w.heap.size [bi', bf']) 164 166 [(1, .x), (5, .s)] (by simp [tbl]) xb _ (Gx.of h.hx h.hb (by simp; omega)) _ (.x 1 _ _ _ rfl (.s 5 _ _ _ _ rfl hrow .nil)) _ _ (.cons _ _ _ _ _ _ (h.hn.mono hg) (by rw [List.append_nil]; exact hk))
 refine ⟨_, xb, _, bi', bf', rfl, h.hs, h.hm.mono (by omega), by rw [hns]; exact nd, by omega⟩
end
theorem ExL.atk {R : Nat → Nat → Option Value} {l : List Tr} {b o n c k : Nat} {t : Tr} (h : ExL R l (.slice (some ⟨b, o, none⟩) n c)) (ht : l[k]? = some t) : ExA R b (o + k * 11) t := by
 obtain ⟨a', c', e, hc, hm, hr⟩ := h.form
 simp only [Value.slice.injEq] at e
 obtain ⟨rfl, rfl, rfl⟩ := e
 obtain ⟨b', o', ha, hx⟩ := hr (by rintro rfl; simp at ht)
 simp only [Option.some.injEq, Addr.mk.injEq, and_true] at ha
 obtain ⟨rfl, rfl⟩ := ha
 exact hx k t ht
theorem OkG.cases' {kd op : Int} {tx : ByteArray} {v : VV} {nm : List ByteArray} {a b c d : List Tr} (h : OkG (.mk kd op tx v nm a b c d)) : (OkE (.mk kd op tx v nm a b c d) ∧ kd ≠ 15 ∧ kd ≠ 16 ∧ kd ≠ 17) ∨ ((kd = 15 ∨ kd = 16 ∨ kd = 17) ∧ b = [] ∧ ∃ x, a = [x] ∧ OkE x) := by
 cases h with
 | expr _ h => refine .inl ⟨h, ?_⟩; cases h <;> omega
 | sign _ _ _ _ _ x _ _ hk hx => exact .inr ⟨hk, rfl, x, rfl, hx⟩
def CaRel (H bm bi bf q xb pb eb : Nat) (ln : Int) (X1 : Value) (nx : Nat) (EE : List Value) (w : World) (f : Tr) (l : List Tr) (i : Value) (wr : World) : Prop :=
 ∃ (k m : Nat) (v : Value) (vs : List Value) (c bi' bf' : Nat), k ≤ l.length ∧ i = .int .i64 (k : Int) ∧ Hid (m = ctE f + ctEs (l.take k)) ∧ Hid (CaAt H bm bi bf q xb pb eb ln X1 nx EE w f l k m v vs c bi' bf' wr)
set_option maxHeartbeats 12800000 in
theorem call_any {R : Nat → Nat → Option Value} {B H bm : Nat} {f : Tr} {l : List Tr} (HX : MEx R B H bm f) (okf : OkE f) (HL : ∀ t ∈ l, (OkE t → MEx R B H bm t) ∧ ∀ s ∈ t.a, OkE s → MEx R B H bm s) (okl : ∀ t ∈ l, OkG t) (hlen : l.length ≤ 8192) (op : Int) (tx : ByteArray) (v : VV) (nm : List ByteArray) (c d : List Tr) (cs : List Value) (w : World) (bi bf q : Nat) (vt : ExV R (.mk 14 op tx v nm (f :: l) [] c d) cs) (ho : Old R B w) (hBH : B ≤ H) (hm : MK w H bm bi bf q) (hq : q + ctE (.mk 14 op tx v nm (f :: l) [] c d) ≤ 8192) :
   Calls Tryz.prog 49 #[.pointer (some ⟨bm, 0, none⟩), .agg cs.toArray] w (MPost H bm bi bf q (ctE (.mk 14 op tx v nm (f :: l) [] c d)) (nmE (.mk 14 op tx v nm (f :: l) [] c d)) w) := by
 obtain ⟨iE, hiE, hzE, hsE, hbE⟩ := info_parts infoEx
 obtain ⟨_, _, _, _, _, _, _, _, _, ma, mc, ka, kc, sa, sc, pa, pc, et, ec, _, hxa, _, _⟩ := vt.form
 simp only [Tr.mk.injEq] at et
 obtain ⟨rfl, rfl, rfl, rfl, rfl, rfl, rfl, rfl, rfl⟩ := et
 have hct : ctE (.mk 14 op tx v nm (f :: l) [] c d) = 1 + (ctE f + ctEs l) := by simp [ctE_mk]
 have hnm : nmE (.mk 14 op tx v nm (f :: l) [] c d) = nmE f ++ nmEs l := by simp [nmE_mk]
 rw [hct] at hq ⊢
 rw [hnm]
 obtain ⟨rb, ro, rfl, hn3, hc3, hm3, hx0⟩ := ExL.at0 hxa
 obtain ⟨kd', op', tx', v', nm', ca', cb', cc', cd', ma', mc', ka', kc', sa', sc', pa', pc', et', hxv', hrd⟩ := hx0.rd
 simp only [List.length_cons, List.length_nil] at ec hxa
 unfold maxLen at hm3
 have hb0 : Below w.heap.size w (w.alloc (.cells #[.int .i64 14, .int .i64 op, .string tx, .int .i64 v.kd, .bool v.nb, .slice ma v.ms.length mc, .int .u64 v.ub, .string v.tx, .slice ka v.kn kc, .slice (some ⟨rb, ro, none⟩) (l.length + 1) sc, .slice pa 0 pc] 75)) := (Below.refl _ _).alloc (Nat.le_refl _) _
 have E0 : Blk (w.alloc (.cells #[.int .i64 14, .int .i64 op, .string tx, .int .i64 v.kd, .bool v.nb, .slice ma v.ms.length mc, .int .u64 v.ub, .string v.tx, .slice ka v.kn kc, .slice (some ⟨rb, ro, none⟩) (l.length + 1) sc, .slice pa 0 pc] 75)) w.heap.size 75 [.int .i64 14, .int .i64 op, .string tx, .int .i64 v.kd, .bool v.nb, .slice ma v.ms.length mc, .int .u64 v.ub, .string v.tx, .slice ka v.kn kc, .slice (some ⟨rb, ro, none⟩) (l.length + 1) sc, .slice pa 0 pc] := Blk.new w _ _
 have HPOS := Li (pos_any H bm bi bf q (w.alloc (.cells #[.int .i64 14, .int .i64 op, .string tx, .int .i64 v.kd, .bool v.nb, .slice ma v.ms.length mc, .int .u64 v.ub, .string v.tx, .slice ka v.kn kc, .slice (some ⟨rb, ro, none⟩) (l.length + 1) sc, .slice pa 0 pc] 75)) (hm.below hb0))
 have HE0' := Li E0
 have HB0 := Li hb0
 have HM := Li hm
 have HO := Li ho
 have HX' := Li HX
 have HL' := Li HL
 have HOK := Li okl
 have HQ := Li hq
 have HV0 := Li hxv'
 have HR0 := Li hrd
 have HXA := Li hxa
 have HCT := Li hct
 have HC3 := Li hc3
 have hlen' := Li hlen
 have i1 : (1 : Int) ≤ (l.length : Int) + 1 := by omega
 have i2 : (l.length : Int) + 1 ≤ (sc : Int) := by omega
 have i3 : (1 : Int) ≤ (sc : Int) := by omega
 clear hx0 hxv' hrd vt hxa hct hnm hb0 E0 hm ho HX HL okl et' hq hn3
 subst ec
 go_enter Tryz.func49, Tryz.ntmps49
 go_wp2_with fail
 refine HPOS.out.mono ?_
 rintro e wq ⟨ln, rfl, hbq⟩
 clear HPOS
 obtain ⟨pb, hpb⟩ : ∃ pb, wq.heap.size = pb := ⟨_, rfl⟩
 have hl0 := HM.out.lts
 have hz0 := HB0.out.size
 have hzq := hbq.size
 have hbw : Below w.heap.size w (wq.alloc (.cells #[.pointer (some ⟨bm, 0, none⟩), .int .i32 ln, .int .i32 1] 63)).drew := (HB0.out.trans ((hbq.alloc hzq _).mono hz0)).drew
 have HBW := Li hbw
 have HP0 : Hid (Blk (wq.alloc (.cells #[.pointer (some ⟨bm, 0, none⟩), .int .i32 ln, .int .i32 1] 63)).drew pb 63 [.pointer (some ⟨bm, 0, none⟩), .int .i32 ln, .int .i32 1]) := Li (by rw [← hpb]; exact Blk.new wq _ _)
 have HE0 : Hid (Blk (wq.alloc (.cells #[.pointer (some ⟨bm, 0, none⟩), .int .i32 ln, .int .i32 1] 63)).drew w.heap.size 75 [.int .i64 14, .int .i64 op, .string tx, .int .i64 v.kd, .bool v.nb, .slice ma v.ms.length mc, .int .u64 v.ub, .string v.tx, .slice ka v.kn kc, .slice (some ⟨rb, ro, none⟩) (l.length + 1) sc, .slice pa 0 pc]) := Li ((HE0'.out.below hbq HE0'.out.lt).alloc _)
 have HO0 : Hid (Old R B (wq.alloc (.cells #[.pointer (some ⟨bm, 0, none⟩), .int .i32 ln, .int .i32 1] 63)).drew) := Li (HO.out.below (hbw.mono (by omega)))
 have HMP : Hid (MK (wq.alloc (.cells #[.pointer (some ⟨bm, 0, none⟩), .int .i32 ln, .int .i32 1] 63)).drew H bm bi bf q) := Li (HM.out.below hbw)
 have PN := Li (HMP.out.ne HP0.out (by decide) (by decide) (by decide))
 have EN := Li (HMP.out.ne HE0.out (by decide) (by decide) (by decide))
 have MX := Li (HX'.out _ (wq.alloc (.cells #[.pointer (some ⟨bm, 0, none⟩), .int .i32 ln, .int .i32 1] 63)).drew bi bf q HV0.out HO0.out hBH HMP.out (by have := HQ.out; omega) okf)
 have KS : Hid (∀ W, Blk W pb 63 [.pointer (some ⟨bm, 0, none⟩), .int .i32 ln, .int .i32 1] → Blk W w.heap.size 75 [.int .i64 14, .int .i64 op, .string tx, .int .i64 v.kd, .bool v.nb, .slice ma v.ms.length mc, .int .u64 v.ub, .string v.tx, .slice ka v.kn kc, .slice (some ⟨rb, ro, none⟩) (l.length + 1) sc, .slice pa 0 pc] → Old R B W → W.cell? ⟨w.heap.size, 9, none⟩ = some (.slice (some ⟨rb, ro, none⟩) (l.length + 1) sc) ∧ W.cell? ⟨pb, 0, none⟩ = some (.pointer (some ⟨bm, 0, none⟩)) ∧ W.cell? ⟨pb, 1, none⟩ = some (.int .i32 ln) ∧ W.cell? ⟨pb, 2, none⟩ = some (.int .i32 1) ∧ W.cell? ⟨rb, ro, none⟩ = some (.int .i64 kd') ∧ W.cell? ⟨rb, ro + 1, none⟩ = some (.int .i64 op') ∧ W.cell? ⟨rb, ro + 2, none⟩ = some (.string tx') ∧ W.cell? ⟨rb, ro + 3, none⟩ = some (.int .i64 v'.kd) ∧ W.cell? ⟨rb, ro + 4, none⟩ = some (.bool v'.nb) ∧ W.cell? ⟨rb, ro + 5, none⟩ = some (.slice ma' v'.ms.length mc') ∧ W.cell? ⟨rb, ro + 6, none⟩ = some (.int .u64 v'.ub) ∧ W.cell? ⟨rb, ro + 7, none⟩ = some (.string v'.tx) ∧ W.cell? ⟨rb, ro + 8, none⟩ = some (.slice ka' v'.kn kc') ∧ W.cell? ⟨rb, ro + 9, none⟩ = some (.slice sa' ca'.length sc') ∧ W.cell? ⟨rb, ro + 10, none⟩ = some (.slice pa' cb'.length pc')) := Li (fun W h1 h2 h3 => ⟨h2.cell 9 (by simp), h1.cell 0 (by simp), h1.cell 1 (by simp), h1.cell 2 (by simp), HR0.out B W h3⟩)
 have STEPD : Hid (∀ (w1 : World) (Tx bx cx bi2 bf2 : Nat), Stp (wq.alloc (.cells #[.pointer (some ⟨bm, 0, none⟩), .int .i32 ln, .int .i32 1] 63)).drew.heap.size (wq.alloc (.cells #[.pointer (some ⟨bm, 0, none⟩), .int .i32 ln, .int .i32 1] 63)).drew w1 bm bi bf bi2 bf2 → MK w1 H bm bi2 bf2 (q + ctE f) → Nd (Gx w1 (wq.alloc (.cells #[.pointer (some ⟨bm, 0, none⟩), .int .i32 ln, .int .i32 1] 63)).drew.heap.size [bi2, bf2]) (.iface Tx (.pointer (some ⟨bx, 0, none⟩))) (nmE f) cx → cx + 1 ≤ 3 * ctE f →
     Blk w1 pb 63 [.pointer (some ⟨bm, 0, none⟩), .int .i32 ln, .int .i32 1] ∧ Blk w1 w.heap.size 75 [.int .i64 14, .int .i64 op, .string tx, .int .i64 v.kd, .bool v.nb, .slice ma v.ms.length mc, .int .u64 v.ub, .string v.tx, .slice ka v.kn kc, .slice (some ⟨rb, ro, none⟩) (l.length + 1) sc, .slice pa 0 pc] ∧ Old R B w1 ∧ CaRel H bm bi bf q w1.heap.size pb w.heap.size ln (.iface Tx (.pointer (some ⟨bx, 0, none⟩))) cx [.int .i64 14, .int .i64 op, .string tx, .int .i64 v.kd, .bool v.nb, .slice ma v.ms.length mc, .int .u64 v.ub, .string v.tx, .slice ka v.kn kc, .slice (some ⟨rb, ro, none⟩) (l.length + 1) sc, .slice pa 0 pc] w f l (.int .i64 0) (w1.alloc (.cells #[.pointer none, .iface Tx (.pointer (some ⟨bx, 0, none⟩)), .pointer (some ⟨bm, 0, none⟩), .int .i32 ln, .int .i32 1, .slice none 0 0, .pointer (some ⟨bm, 0, none⟩), .int .i32 ln, .int .i32 1] 166)) ∧ Blk (w1.alloc (.cells #[.pointer none, .iface Tx (.pointer (some ⟨bx, 0, none⟩)), .pointer (some ⟨bm, 0, none⟩), .int .i32 ln, .int .i32 1, .slice none 0 0, .pointer (some ⟨bm, 0, none⟩), .int .i32 ln, .int .i32 1] 166)) w.heap.size 75 [.int .i64 14, .int .i64 op, .string tx, .int .i64 v.kd, .bool v.nb, .slice ma v.ms.length mc, .int .u64 v.ub, .string v.tx, .slice ka v.kn kc, .slice (some ⟨rb, ro, none⟩) (l.length + 1) sc, .slice pa 0 pc]) := Li (fun w1 Tx bx cx bi2 bf2 hs1 hm1 hn1 hcx => by
   obtain ⟨hp1, _, _⟩ := hs1.blk HP0.out HP0.out.lt PN.out.1 PN.out.2.1 PN.out.2.2
   obtain ⟨he1, _, _⟩ := hs1.blk HE0.out HE0.out.lt EN.out.1 EN.out.2.1 EN.out.2.2
   have hzw := HBW.out.size
   have hsz := hs1.size
   have hO1 : Old R B w1 := HO0.out.below ((hs1.below (H := H) (by omega) (by omega) (by omega) (by omega)).mono hBH)
   have l1 := hm1.lts
   have hx1 : Blk (w1.alloc (.cells #[.pointer none, .iface Tx (.pointer (some ⟨bx, 0, none⟩)), .pointer (some ⟨bm, 0, none⟩), .int .i32 ln, .int .i32 1, .slice none 0 0, .pointer (some ⟨bm, 0, none⟩), .int .i32 ln, .int .i32 1] 166)) w1.heap.size 166 [.pointer none, .iface Tx (.pointer (some ⟨bx, 0, none⟩)), .pointer (some ⟨bm, 0, none⟩), .int .i32 ln, .int .i32 1, .slice none 0 0, .pointer (some ⟨bm, 0, none⟩), .int .i32 ln, .int .i32 1] := Blk.new w1 _ _
   have hbx : Below w1.heap.size w1 (w1.alloc (.cells #[.pointer none, .iface Tx (.pointer (some ⟨bx, 0, none⟩)), .pointer (some ⟨bm, 0, none⟩), .int .i32 ln, .int .i32 1, .slice none 0 0, .pointer (some ⟨bm, 0, none⟩), .int .i32 ln, .int .i32 1] 166)) := (Below.refl _ _).alloc (Nat.le_refl _) _
   refine ⟨hp1, he1, hO1, ⟨0, ctE f, .slice none 0 0, [], 0, bi2, bf2, Nat.zero_le _, rfl, Li (by simp), Li ⟨hx1, hp1.alloc _, he1.alloc _, World.ownsRow_nil _ _ _ _, ((Stp.of_below HBW.out).trans (hs1.mono hzw)).trans (Stp.of_below (hbx.mono (by omega))), hm1.below hbx, (hn1.mono (Gx.le (by omega) fun b h1 h2 h3 => ?_)), by simp only [List.take_zero, nmEs_nil]; exact .nil, by omega, hcx, by simp [Value.ownBlock], by omega, by omega⟩⟩, he1.alloc _⟩
   exact ⟨by simp [Value.ownBlock] at h3 ⊢; omega, hbx.block b h2⟩)
 clear hbq hl0 hz0 hzq hbw
 go_upto_region 2 with fail
 go_region_held3 (fun W => W.cell? ⟨w.heap.size, 9, none⟩ = some (.slice (some ⟨rb, ro, none⟩) (l.length + 1) sc) ∧ W.cell? ⟨pb, 0, none⟩ = some (.pointer (some ⟨bm, 0, none⟩)) ∧ W.cell? ⟨pb, 1, none⟩ = some (.int .i32 ln) ∧ W.cell? ⟨pb, 2, none⟩ = some (.int .i32 1) ∧ W.cell? ⟨rb, ro, none⟩ = some (.int .i64 kd') ∧ W.cell? ⟨rb, ro + 1, none⟩ = some (.int .i64 op') ∧ W.cell? ⟨rb, ro + 2, none⟩ = some (.string tx') ∧ W.cell? ⟨rb, ro + 3, none⟩ = some (.int .i64 v'.kd) ∧ W.cell? ⟨rb, ro + 4, none⟩ = some (.bool v'.nb) ∧ W.cell? ⟨rb, ro + 5, none⟩ = some (.slice ma' v'.ms.length mc') ∧ W.cell? ⟨rb, ro + 6, none⟩ = some (.int .u64 v'.ub) ∧ W.cell? ⟨rb, ro + 7, none⟩ = some (.string v'.tx) ∧ W.cell? ⟨rb, ro + 8, none⟩ = some (.slice ka' v'.kn kc') ∧ W.cell? ⟨rb, ro + 9, none⟩ = some (.slice sa' ca'.length sc') ∧ W.cell? ⟨rb, ro + 10, none⟩ = some (.slice pa' cb'.length pc')) (with_reducible first | exact KS.out _ HP0.out HE0.out HO0.out | exact KS.out _ HP1.out HE1.out HO1.out | exact KS.out _ (HP1.out.alloc _) (HE1.out.alloc _) (HO1.out.alc _))
   ((first
     | (go_at_call 45; (with_reducible refine MX.out.mono ?_); rintro e w1 ⟨Tx, bx, cx, bi2, bf2, rfl, hs1, hm1, hn1, hcx⟩; obtain ⟨hp1, he1, ho1, stp, hex⟩ := STEPD.out w1 Tx bx cx bi2 bf2 hs1 hm1 hn1 hcx; have HP1 := Li hp1; have HE1 := Li he1; have HO1 := Li ho1; have STP := Li stp; have HEX := Li hex; clear hs1 hm1 hn1 hcx hp1 he1 ho1 stp hex)
     | fail))
 have f9 := HEX.out.cell 9 (by simp)
 have flt := HEX.out.lt
 clear STEPD KS MX HE0 HP0 HE0' HP1 HE1 HO1 HO0 HMP PN EN
 rcases Nat.lt_or_ge 1 sc with h1c | h1c
 · have HSL : Hid (ExL R l (.slice (some ⟨rb, ro + 11, none⟩) l.length (sc - 1))) := Li (ExL.drop1 HXA.out (by omega))
   have i4 : ¬ sc = 1 := by omega
   go_wp2_with fail
   go_loopw [26] (CaRel H bm bi bf q w1.heap.size pb w.heap.size ln (.iface Tx (.pointer (some ⟨bx, 0, none⟩))) cx [.int .i64 14, .int .i64 op, .string tx, .int .i64 v.kd, .bool v.nb, .slice ma v.ms.length mc, .int .u64 v.ub, .string v.tx, .slice ka v.kn kc, .slice (some ⟨rb, ro, none⟩) (l.length + 1) sc, .slice pa 0 pc] w f l) (fun i _ => l.length - (intOf i).toNat)
   case atStart => exact STP.out
   case round =>
     obtain ⟨k, m, v0, vs, cn, bi', bf', hk, rfl, HMM, HAT⟩ := hrel
     clear STP
     by_cases hlt : k < l.length
     · obtain ⟨t, ht⟩ : ∃ t, l[k]? = some t := ⟨_, List.getElem?_eq_getElem hlt⟩
       have hl0 := HM.out.lts
       have hwr : Old R B wr := HO.out.below ((HAT.out.hs.below (H := H) (by omega) (by omega) (by omega) (by omega)).mono hBH)
       obtain ⟨kdk, opk, txk, vk, nmk, cak, cbk, cck, cdk, mak, mck, kak, kck, sak, sck, pak, pck, et, hxv, ⟨hvr, hxa, hpbl, hkr, hor, htx⟩, hbB, c0, c1, c2, c3, c4, c5, c6, c7, c8, c9, c10⟩ := (HSL.out.atk ht).cells hwr
       have hle := len_takeC ctEs_append ht
       simp only [ctEs_cons, ctEs_nil, Nat.add_zero] at hle
       have hmem := List.mem_of_getElem? ht
       obtain ⟨W0', hW0⟩ : ∃ W0', W0' = wr.alloc (.cells #[.int .i64 kdk, .int .i64 opk, .string txk, .int .i64 vk.kd, .bool vk.nb, .slice mak vk.ms.length mck, .int .u64 vk.ub, .string vk.tx, .slice kak vk.kn kck, .slice sak cak.length sck, .slice pak cbk.length pck] 75) := ⟨_, rfl⟩
       have hb0 : Below wr.heap.size wr W0' := by rw [hW0]; exact (Below.refl _ _).alloc (Nat.le_refl _) _
       have E0 : Blk W0' wr.heap.size 75 [.int .i64 kdk, .int .i64 opk, .string txk, .int .i64 vk.kd, .bool vk.nb, .slice mak vk.ms.length mck, .int .u64 vk.ub, .string vk.tx, .slice kak vk.kn kck, .slice sak cak.length sck, .slice pak cbk.length pck] := by rw [hW0]; exact Blk.new wr _ _
       have hat0 := HAT.out.keep (Stp.of_below hb0) (HAT.out.hm.below hb0)
       have HE0 := Li E0
       have HO0 := Li (hwr.below (hb0.mono (by have := HAT.out.hs.size; omega)))
       have hxe : wr.heap.size ≠ w1.heap.size := by have := HAT.out.hx.lt; omega
       have HAT0 := Li hat0
       have HB0 := Li hb0
       have HT := Li ht
       have HET := Li et
       have HXV := Li hxv
       have HXK := Li hxa
       have HLT := Li (HL'.out t hmem)
       have hokt := HOK.out t hmem
       rw [et] at hokt
       have HOKT := Li hokt.cases'
       have hmm := HMM.out
       clear ht et hxv hvr hxa hpbl hkr hor htx hwr hb0 E0 hat0 hokt hmem HAT hbB
       subst hW0
       rcases HOKT.out with ⟨hokt, n15, n16, n17⟩ | ⟨hkk, hbn, x, han, hokx⟩
       · have HE0 : Hid (Blk (wr.alloc (.cells #[.int .i64 kdk, .int .i64 opk, .string txk, .int .i64 vk.kd, .bool vk.nb, .slice mak vk.ms.length mck, .int .u64 vk.ub, .string vk.tx, .slice kak vk.kn kck, .slice sak cak.length sck, .slice pak cbk.length pck] 75)).drew wr.heap.size 75 [.int .i64 kdk, .int .i64 opk, .string txk, .int .i64 vk.kd, .bool vk.nb, .slice mak vk.ms.length mck, .int .u64 vk.ub, .string vk.tx, .slice kak vk.kn kck, .slice sak cak.length sck, .slice pak cbk.length pck]) := HE0
         have MX := Li (HLT.out.1 (by rw [HET.out]; exact hokt) _ (wr.alloc (.cells #[.int .i64 kdk, .int .i64 opk, .string txk, .int .i64 vk.kd, .bool vk.nb, .slice mak vk.ms.length mck, .int .u64 vk.ub, .string vk.tx, .slice kak vk.kn kck, .slice sak cak.length sck, .slice pak cbk.length pck] 75)).drew bi' bf' (q + m) HXV.out HO0.out hBH HAT0.out.hm (by have := HQ.out; omega) (by rw [HET.out]; exact hokt))
         have EN := Li (HAT0.out.hm.ne HE0.out (by decide) (by decide) (by decide))
         have KS : Hid (∀ W, Blk W wr.heap.size 75 [.int .i64 kdk, .int .i64 opk, .string txk, .int .i64 vk.kd, .bool vk.nb, .slice mak vk.ms.length mck, .int .u64 vk.ub, .string vk.tx, .slice kak vk.kn kck, .slice sak cak.length sck, .slice pak cbk.length pck] → W.cell? ⟨w1.heap.size, 5, none⟩ = some v0 → W.cell? ⟨w1.heap.size, 5, none⟩ = some v0 ∧ W.cell? ⟨wr.heap.size, 0, none⟩ = some (.int .i64 kdk) ∧ W.cell? ⟨wr.heap.size, 1, none⟩ = some (.int .i64 opk) ∧ W.cell? ⟨wr.heap.size, 2, none⟩ = some (.string txk) ∧ W.cell? ⟨wr.heap.size, 3, none⟩ = some (.int .i64 vk.kd) ∧ W.cell? ⟨wr.heap.size, 4, none⟩ = some (.bool vk.nb) ∧ W.cell? ⟨wr.heap.size, 5, none⟩ = some (.slice mak vk.ms.length mck) ∧ W.cell? ⟨wr.heap.size, 6, none⟩ = some (.int .u64 vk.ub) ∧ W.cell? ⟨wr.heap.size, 7, none⟩ = some (.string vk.tx) ∧ W.cell? ⟨wr.heap.size, 8, none⟩ = some (.slice kak vk.kn kck) ∧ W.cell? ⟨wr.heap.size, 9, none⟩ = some (.slice sak cak.length sck) ∧ W.cell? ⟨wr.heap.size, 10, none⟩ = some (.slice pak cbk.length pck)) := Li (fun W h1 hx => ⟨hx, h1.cell 0 (by simp), h1.cell 1 (by simp), h1.cell 2 (by simp), h1.cell 3 (by simp), h1.cell 4 (by simp), h1.cell 5 (by simp), h1.cell 6 (by simp), h1.cell 7 (by simp), h1.cell 8 (by simp), h1.cell 9 (by simp), h1.cell 10 (by simp)⟩)
         have HMK := Li hmm
         have HATD := Li (HAT0.out.keep (Stp.refl _ _ _ _ _).drew HAT0.out.hm.drew)
         have STEPD : Hid (∀ (w2 : World) (Ty by_ cy bi2 bf2 : Nat), Stp (wr.alloc (.cells #[.int .i64 kdk, .int .i64 opk, .string txk, .int .i64 vk.kd, .bool vk.nb, .slice mak vk.ms.length mck, .int .u64 vk.ub, .string vk.tx, .slice kak vk.kn kck, .slice sak cak.length sck, .slice pak cbk.length pck] 75)).drew.heap.size (wr.alloc (.cells #[.int .i64 kdk, .int .i64 opk, .string txk, .int .i64 vk.kd, .bool vk.nb, .slice mak vk.ms.length mck, .int .u64 vk.ub, .string vk.tx, .slice kak vk.kn kck, .slice sak cak.length sck, .slice pak cbk.length pck] 75)).drew w2 bm bi' bf' bi2 bf2 → MK w2 H bm bi2 bf2 (q + m + ctE t) → Nd (Gx w2 (wr.alloc (.cells #[.int .i64 kdk, .int .i64 opk, .string txk, .int .i64 vk.kd, .bool vk.nb, .slice mak vk.ms.length mck, .int .u64 vk.ub, .string vk.tx, .slice kak vk.kn kck, .slice sak cak.length sck, .slice pak cbk.length pck] 75)).drew.heap.size [bi2, bf2]) (.iface Ty (.pointer (some ⟨by_, 0, none⟩))) (nmE t) cy → cy + 1 ≤ 3 * ctE t →
             (w2.alloc (.cells #[(.iface Ty (.pointer (some ⟨by_, 0, none⟩)))] 93)).ownsRow w.heap.size 93 1 v0 k vs ∧ Blk w2 wr.heap.size 75 [.int .i64 kdk, .int .i64 opk, .string txk, .int .i64 vk.kd, .bool vk.nb, .slice mak vk.ms.length mck, .int .u64 vk.ub, .string vk.tx, .slice kak vk.kn kck, .slice sak cak.length sck, .slice pak cbk.length pck] ∧ w.heap.size ≤ w2.heap.size ∧ w2.cell? ⟨w1.heap.size, 5, none⟩ = some v0 ∧ (w2.alloc (.cells #[(.iface Ty (.pointer (some ⟨by_, 0, none⟩)))] 93)).cell? ⟨w1.heap.size, 5, none⟩ = some v0 ∧
             ∀ v3 w3, w3.ownsRow w.heap.size 93 1 v3 (k + 1) (vs ++ [(.iface Ty (.pointer (some ⟨by_, 0, none⟩)))]) → (w2.alloc (.cells #[(.iface Ty (.pointer (some ⟨by_, 0, none⟩)))] 93)).grownBy w3 v0.ownBlock → (v3.ownBlock = v0.ownBlock ∨ v3.ownBlock = some (w2.alloc (.cells #[(.iface Ty (.pointer (some ⟨by_, 0, none⟩)))] 93)).heap.size) →
               CaRel H bm bi bf q w1.heap.size pb w.heap.size ln (.iface Tx (.pointer (some ⟨bx, 0, none⟩))) cx [.int .i64 14, .int .i64 op, .string tx, .int .i64 v.kd, .bool v.nb, .slice ma v.ms.length mc, .int .u64 v.ub, .string v.tx, .slice ka v.kn kc, .slice (some ⟨rb, ro, none⟩) (l.length + 1) sc, .slice pa 0 pc] w f l (.int .i64 ((k : Int) + 1)) (w3.setCell ⟨w1.heap.size, 5, none⟩ v3) ∧ Blk w3 wr.heap.size 75 [.int .i64 kdk, .int .i64 opk, .string txk, .int .i64 vk.kd, .bool vk.nb, .slice mak vk.ms.length mck, .int .u64 vk.ub, .string vk.tx, .slice kak vk.kn kck, .slice sak cak.length sck, .slice pak cbk.length pck] ∧ w3.cell? ⟨w1.heap.size, 5, none⟩ = some v0 ∧ w3.frozen? ⟨w1.heap.size, 5, none⟩ = false) := Li (fun w2 Ty by_ cy bi2 bf2 hs2 hm2 hn2 hcy => by
           have hat1 := HATD.out.keep hs2 (m' := m + ctE t) (by rw [← Nat.add_assoc]; exact hm2)
           have hb2 : Below w2.heap.size w2 (w2.alloc (.cells #[(.iface Ty (.pointer (some ⟨by_, 0, none⟩)))] 93)) := (Below.refl _ _).alloc (Nat.le_refl _) _
           have hat2 := hat1.keep (Stp.of_below hb2) (hat1.hm.below hb2)
           have he2 := (hs2.blk HE0.out HE0.out.lt EN.out.1 EN.out.2.1 EN.out.2.2).1
           have z0 := HB0.out.size
           have z2 := hs2.size
           have zd : (wr.alloc (.cells #[.int .i64 kdk, .int .i64 opk, .string txk, .int .i64 vk.kd, .bool vk.nb, .slice mak vk.ms.length mck, .int .u64 vk.ub, .string vk.tx, .slice kak vk.kn kck, .slice sak cak.length sck, .slice pak cbk.length pck] 75)).drew.heap.size = wr.heap.size + 1 := by simp
           have z1 := hat1.hs.size
           have hxl := hat1.hx.lt
           have hx0l := HATD.out.hx.lt
           refine ⟨hat2.ho, he2, z1, hat1.hx.cell 5 (by simp), hat2.hx.cell 5 (by simp), fun v3 w3 h1 h2 h3 => ?_⟩
           have hvn : Nd (Gx (w2.alloc (.cells #[(.iface Ty (.pointer (some ⟨by_, 0, none⟩)))] 93)) w.heap.size (bi2 :: bf2 :: w1.heap.size :: v0.ownBlock.toList)) (.iface Ty (.pointer (some ⟨by_, 0, none⟩))) (nmE t) cy := hn2.mono (Gx.le (HATD.out.hs.size) fun b g1 g2 g3 => by
             simp only [List.mem_cons, List.mem_nil_iff, or_false, not_or] at g3 ⊢
             refine ⟨⟨g3.1, g3.2, by omega, fun hb => ?_⟩, hb2.block b g2⟩
             rw [Option.mem_toList] at hb
             have := (HATD.out.rx b hb).2.2.2.2
             omega)
           have hp := hat2.put HT.out hvn (by omega) h2 h1 h3
           have hx3 : Blk w3 w1.heap.size 166 _ := hat2.hx.far_own hat2.ho (by decide) h2
           refine ⟨⟨k + 1, m + ctE t, v3, _, _, bi2, bf2, by omega, by simp, Li (by rw [HMK.out, take_succ_of HT.out, ctEs_append]; simp [Nat.add_assoc]), Li hp⟩, (he2.alloc (.cells #[(.iface Ty (.pointer (some ⟨by_, 0, none⟩)))] 93)).far_own hat2.ho (by decide) h2, hx3.cell 5 (by simp), hx3.free 5⟩)
         have x5 : (wr.alloc (.cells #[.int .i64 kdk, .int .i64 opk, .string txk, .int .i64 vk.kd, .bool vk.nb, .slice mak vk.ms.length mck, .int .u64 vk.ub, .string vk.tx, .slice kak vk.kn kck, .slice sak cak.length sck, .slice pak cbk.length pck] 75)).drew.cell? ⟨w1.heap.size, 5, none⟩ = some v0 := HAT0.out.hx.cell 5 (by simp)
         clear HOKT hokt hmm
         go_upto_region 10 with fail
         refine AnyL.begin 12 (fun W => W.cell? ⟨w1.heap.size, 5, none⟩ = some v0 ∧ W.cell? ⟨wr.heap.size, 0, none⟩ = some (.int .i64 kdk) ∧ W.cell? ⟨wr.heap.size, 1, none⟩ = some (.int .i64 opk) ∧ W.cell? ⟨wr.heap.size, 2, none⟩ = some (.string txk) ∧ W.cell? ⟨wr.heap.size, 3, none⟩ = some (.int .i64 vk.kd) ∧ W.cell? ⟨wr.heap.size, 4, none⟩ = some (.bool vk.nb) ∧ W.cell? ⟨wr.heap.size, 5, none⟩ = some (.slice mak vk.ms.length mck) ∧ W.cell? ⟨wr.heap.size, 6, none⟩ = some (.int .u64 vk.ub) ∧ W.cell? ⟨wr.heap.size, 7, none⟩ = some (.string vk.tx) ∧ W.cell? ⟨wr.heap.size, 8, none⟩ = some (.slice kak vk.kn kck) ∧ W.cell? ⟨wr.heap.size, 9, none⟩ = some (.slice sak cak.length sck) ∧ W.cell? ⟨wr.heap.size, 10, none⟩ = some (.slice pak cbk.length pck)) (by kernel_rfl) ?_ (fun hHeld => ?_)
         · (try dsimp only)
           with_reducible first | exact KS.out _ HE0.out x5 | exact KS.out _ HE1.out x51 | exact KS.out _ (HE1.out.alloc _) x52 | exact KS.out _ HE3.out x53 | fail
         refine tlA 0 ?_
         refine tlA 1 ?_
         refine tlA 2 ?_
         refine tlA 3 ?_
         refine tlA 4 ?_
         refine tlA 5 ?_
         refine tlA 6 ?_
         refine AnyL.ready (rs := [7]) (by kernel_rfl) (by simp) ?_
         refine ReadyL.cons (o := _) (by simp only [List.getElem?_toArray, List.getElem?_cons_zero, List.getElem?_cons_succ]; rfl) (fun K hK => ?_) ReadyL.nil
         go_simp
         go_at_call 45
         with_reducible refine MX.out.mono ?_
         rintro e w2 ⟨Ty, by_, cy, bi2, bf2, rfl, hs2, hm2, hn2, hcy⟩
         obtain ⟨ow2, he1, hw2, x51, x52, stp⟩ := STEPD.out w2 Ty by_ cy bi2 bf2 hs2 hm2 hn2 hcy
         have OW2 := Li ow2
         have HE1 := Li he1
         have STP := Li stp
         have HW2 := Li hw2
         clear hs2 hm2 hn2 hcy ow2 he1 hw2 stp
         refine hK.out _ _ ?_ (fun hHeld => ?_)
         · (try dsimp only)
           with_reducible first | exact KS.out _ HE0.out x5 | exact KS.out _ HE1.out x51 | exact KS.out _ (HE1.out.alloc _) x52 | exact KS.out _ HE3.out x53 | fail
         clear hK K
         try simp only [Act.put, sA, s0, s1]
         refine AnyL.ready (rs := [8]) (by kernel_rfl) (by simp) ?_
         refine ReadyL.cons (o := _) (by simp only [List.getElem?_toArray, List.getElem?_cons_zero, List.getElem?_cons_succ]; rfl) (fun K hK => ?_) ReadyL.nil
         go_simp
         refine hK.out _ _ ?_ (fun hHeld => ?_)
         · (try dsimp only)
           with_reducible first | exact KS.out _ HE0.out x5 | exact KS.out _ HE1.out x51 | exact KS.out _ (HE1.out.alloc _) x52 | exact KS.out _ HE3.out x53 | fail
         clear hK K
         try simp only [Act.put, sA, s0, s1]
         refine AnyL.ready (rs := [9]) (by kernel_rfl) (by simp) ?_
         refine ReadyL.cons (o := _) (by simp only [List.getElem?_toArray, List.getElem?_cons_zero, List.getElem?_cons_succ]; rfl) (fun K hK => ?_) ReadyL.nil
         refine step_append_to _ rfl (.tmp 59) (.tmp 63) 106 rfl w.heap.size 93 iE _ 16 Tryz.underlying106 hiE hzE hsE hbE rfl v0 k _ rfl OW2.out _ _ _ rfl (Sl.one _ _ _ (by simp)) (by intro u hu; simp at hu; subst hu; rfl) (by unfold maxLen; simp; omega) (by simp; omega) (by have := HW2.out; simp; omega) ?_
         intro v3 w3 g1 g2 g3
         obtain ⟨a3, cc3, rfl⟩ := own_form g1
         obtain ⟨fs, he3, x53, xf3⟩ := STP.out _ w3 g1 g2 g3
         have FS := Li fs
         have HE3 := Li he3
         clear g1 g2 g3 fs he3
         refine hK.out _ _ ?_ (fun hHeld => ?_)
         · (try dsimp only)
           with_reducible first | exact KS.out _ HE0.out x5 | exact KS.out _ HE1.out x51 | exact KS.out _ (HE1.out.alloc _) x52 | exact KS.out _ HE3.out x53 | fail
         clear hK K
         try simp only [Act.put, sA, s0, s1]
         refine AnyL.ready (rs := [10]) (by kernel_rfl) (by simp) ?_
         refine ReadyL.cons (o := _) (by simp only [List.getElem?_toArray, List.getElem?_cons_zero, List.getElem?_cons_succ]; rfl) (fun K hK => ?_) ReadyL.nil
         go_simp
         refine hK.out _ _ ?_ (fun hHeld => ?_)
         · (try dsimp only)
           with_reducible first | exact KS.out _ HE0.out x5 | exact KS.out _ HE1.out x51 | exact KS.out _ (HE1.out.alloc _) x52 | exact KS.out _ HE3.out x53 | fail
         clear hK K
         try simp only [Act.put, sA, s0, s1]
         refine tlA 11 ?_
         refine AnyL.ready (rs := [12]) (by kernel_rfl) (by simp) ?_
         refine ReadyL.last (o := _) (by simp only [List.getElem?_toArray, List.getElem?_cons_zero, List.getElem?_cons_succ]; rfl) (fun K hK => ?_)
         go_simp
         refine hK.out _ _ ?_
         clear hK K
         refine AnyL.done (by kernel_rfl) ?_ _
         try simp only [Act.put, sA, s0, s1]
         go_wp2_with fail
         go_roundw
         case rel => first | exact FS.out | ((repeat apply Exists.intro); exact ⟨FS.out, rfl⟩)
         case measure => simp [intOf]; omega
       · subst hbn han
         simp only [List.length_cons, List.length_nil, Nat.zero_add] at *
         obtain ⟨rb2, ro2, rfl, hn2', hc2', hm2', hx2⟩ := ExL.at0 HXK.out
         obtain ⟨kd2, op2, tx2, v2, nm2, ca2, cb2, cc2, cd2, ma2, mc2, ka2, kc2, sa2, sc2, pa2, pc2, et2, hxv2, hrd2⟩ := hx2.rd
         have hctt : ctE t = 1 + ctE x := by rw [HET.out, ctE_mk]; rcases hkk with rfl | rfl | rfl <;> simp
         have MXS : Hid (∀ (W : World) (bi2 bf2 : Nat), Old R B W → MK W H bm bi2 bf2 (q + m) → Calls Tryz.prog 45 #[.pointer (some ⟨bm, 0, none⟩), .agg #[.int .i64 kd2, .int .i64 op2, .string tx2, .int .i64 v2.kd, .bool v2.nb, .slice ma2 v2.ms.length mc2, .int .u64 v2.ub, .string v2.tx, .slice ka2 v2.kn kc2, .slice sa2 ca2.length sc2, .slice pa2 cb2.length pc2]] W (MPost H bm bi2 bf2 (q + m) (ctE x) (nmE x) W)) := Li (fun W bi2 bf2 h1 h2 => HLT.out.2 x (by rw [HET.out]; exact List.mem_singleton.2 rfl) hokx _ W bi2 bf2 (q + m) hxv2 h1 hBH h2 (by have := HQ.out; omega) hokx)
         have HR2 := Li hrd2
         have HMK := Li hmm
         have WT := Li (want_any H bm bi' bf' (q + m) (wr.alloc (.cells #[.int .i64 kdk, .int .i64 opk, .string txk, .int .i64 vk.kd, .bool vk.nb, .slice mak vk.ms.length mck, .int .u64 vk.ub, .string vk.tx, .slice kak vk.kn kck, .slice (some ⟨rb2, ro2, none⟩) 1 sck, .slice pak 0 pck] 75)) HAT0.out.hm)
         have EN := Li (HAT0.out.hm.ne HE0.out (by decide) (by decide) (by decide))
         have HCTT := Li hctt
         have HLE := Li hle
         clear HOKT hmm hx2 hxv2 hrd2 et2 hn2' hc2' hm2' hctt
         rcases hkk with rfl | rfl | rfl
         · go_wp2_with fail
           refine WT.out.mono ?_
           rintro e wt ⟨rfl, hst, hmt⟩
           have hatT := HAT0.out.keep hst (m' := m) hmt
           have hzt := hatT.hs.size
           have hl9 := HAT0.out.hm.lts
           have HATT : Hid (CaAt H bm bi bf q w1.heap.size pb w.heap.size ln (.iface Tx (.pointer (some ⟨bx, 0, none⟩))) cx [.int .i64 14, .int .i64 op, .string tx, .int .i64 v.kd, .bool v.nb, .slice ma v.ms.length mc, .int .u64 v.ub, .string v.tx, .slice ka v.kn kc, .slice (some ⟨rb, ro, none⟩) (l.length + 1) sc, .slice pa 0 pc] w f l k m v0 vs cn bi' bf' wt.drew) := Li (hatT.keep (Stp.refl _ _ _ _ _).drew hatT.hm.drew)
           have HKT : Hid (CaK R B bm pb wr.heap.size ln [.int .i64 15, .int .i64 opk, .string txk, .int .i64 vk.kd, .bool vk.nb, .slice mak vk.ms.length mck, .int .u64 vk.ub, .string vk.tx, .slice kak vk.kn kck, .slice (some ⟨rb2, ro2, none⟩) 1 sck, .slice pak 0 pck] wt.drew) := Li ⟨HATT.out.hp, (hst.blk HE0.out HE0.out.lt EN.out.1 EN.out.2.1 EN.out.2.2).1, show Old R B wt from HO0.out.below ((hst.below (H := H) (by omega) (by omega) (by omega) (by have := HAT0.out.hs.size; omega)).mono hBH)⟩
           have hpx : pb ≠ w1.heap.size := by intro e0; have h1 := HATT.out.hx; rw [← e0] at h1; exact absurd (h1.inj HATT.out.hp).1 (by decide)
           have KS : Hid (∀ W, CaK R B bm pb wr.heap.size ln [.int .i64 15, .int .i64 opk, .string txk, .int .i64 vk.kd, .bool vk.nb, .slice mak vk.ms.length mck, .int .u64 vk.ub, .string vk.tx, .slice kak vk.kn kck, .slice (some ⟨rb2, ro2, none⟩) 1 sck, .slice pak 0 pck] W → W.cell? ⟨w1.heap.size, 5, none⟩ = some v0 → W.cell? ⟨w1.heap.size, 5, none⟩ = some v0 ∧ W.cell? ⟨wr.heap.size, 2, none⟩ = some (.string txk) ∧ W.cell? ⟨pb, 0, none⟩ = some (.pointer (some ⟨bm, 0, none⟩)) ∧ W.cell? ⟨pb, 1, none⟩ = some (.int .i32 ln) ∧ W.cell? ⟨pb, 2, none⟩ = some (.int .i32 1) ∧ W.cell? ⟨wr.heap.size, 9, none⟩ = some (.slice (some ⟨rb2, ro2, none⟩) 1 sck) ∧ W.cell? ⟨rb2, ro2, none⟩ = some (.int .i64 kd2) ∧ W.cell? ⟨rb2, ro2 + 1, none⟩ = some (.int .i64 op2) ∧ W.cell? ⟨rb2, ro2 + 2, none⟩ = some (.string tx2) ∧ W.cell? ⟨rb2, ro2 + 3, none⟩ = some (.int .i64 v2.kd) ∧ W.cell? ⟨rb2, ro2 + 4, none⟩ = some (.bool v2.nb) ∧ W.cell? ⟨rb2, ro2 + 5, none⟩ = some (.slice ma2 v2.ms.length mc2) ∧ W.cell? ⟨rb2, ro2 + 6, none⟩ = some (.int .u64 v2.ub) ∧ W.cell? ⟨rb2, ro2 + 7, none⟩ = some (.string v2.tx) ∧ W.cell? ⟨rb2, ro2 + 8, none⟩ = some (.slice ka2 v2.kn kc2) ∧ W.cell? ⟨rb2, ro2 + 9, none⟩ = some (.slice sa2 ca2.length sc2) ∧ W.cell? ⟨rb2, ro2 + 10, none⟩ = some (.slice pa2 cb2.length pc2)) := Li (fun W h hx => ⟨hx, h.2.1.cell 2 (by simp), h.1.cell 0 (by simp), h.1.cell 1 (by simp), h.1.cell 2 (by simp), h.2.1.cell 9 (by simp), HR2.out B W h.2.2⟩)
           have KA : Hid (∀ (W : World) (o : Obj), CaK R B bm pb wr.heap.size ln [.int .i64 15, .int .i64 opk, .string txk, .int .i64 vk.kd, .bool vk.nb, .slice mak vk.ms.length mck, .int .u64 vk.ub, .string vk.tx, .slice kak vk.kn kck, .slice (some ⟨rb2, ro2, none⟩) 1 sck, .slice pak 0 pck] W → CaK R B bm pb wr.heap.size ln [.int .i64 15, .int .i64 opk, .string txk, .int .i64 vk.kd, .bool vk.nb, .slice mak vk.ms.length mck, .int .u64 vk.ub, .string vk.tx, .slice kak vk.kn kck, .slice (some ⟨rb2, ro2, none⟩) 1 sck, .slice pak 0 pck] (W.alloc o)) := Li (fun W o h => h.alloc o)
           have x5 : wt.drew.cell? ⟨w1.heap.size, 5, none⟩ = some v0 := HATT.out.hx.cell 5 (by simp)
           have ENT := Li (HATT.out.hm.ne HKT.out.2.1 (by decide) (by decide) (by decide))
           have PNT := Li (HATT.out.hm.ne HATT.out.hp (by decide) (by decide) (by decide))
           have MX := Li (MXS.out wt.drew bi' bf' HKT.out.2.2 HATT.out.hm)
           have STEPD : Hid (∀ (w2 : World) (Ty by_ cy bi2 bf2 : Nat), Stp wt.drew.heap.size wt.drew w2 bm bi' bf' bi2 bf2 → MK w2 H bm bi2 bf2 (q + m + ctE x) → Nd (Gx w2 wt.drew.heap.size [bi2, bf2]) (.iface Ty (.pointer (some ⟨by_, 0, none⟩))) (nmE x) cy → cy + 1 ≤ 3 * ctE x →
               (((w2.alloc (.cells #[.pointer none, .pointer (some ⟨bm, 0, none⟩), .int .i32 ln, .int .i32 1, .string txk, .nilIface] 65)).alloc (.cells #[.pointer none, .iface 56 (.pointer (some ⟨w2.heap.size, 0, none⟩)), .pointer (some ⟨bm, 0, none⟩), .int .i32 ln, .int .i32 1, .int .i8 24, (.iface Ty (.pointer (some ⟨by_, 0, none⟩)))] 160)).alloc (.cells #[(.iface 158 (.pointer (some ⟨(w2.heap.size + 1), 0, none⟩)))] 93)).ownsRow w.heap.size 93 1 v0 k vs ∧ CaK R B bm pb wr.heap.size ln [.int .i64 15, .int .i64 opk, .string txk, .int .i64 vk.kd, .bool vk.nb, .slice mak vk.ms.length mck, .int .u64 vk.ub, .string vk.tx, .slice kak vk.kn kck, .slice (some ⟨rb2, ro2, none⟩) 1 sck, .slice pak 0 pck] w2 ∧ w.heap.size ≤ w2.heap.size ∧ w2.cell? ⟨w1.heap.size, 5, none⟩ = some v0 ∧ (w2.alloc (.cells #[.pointer none, .pointer (some ⟨bm, 0, none⟩), .int .i32 ln, .int .i32 1, .string txk, .nilIface] 65)).cell? ⟨w1.heap.size, 5, none⟩ = some v0 ∧ ((w2.alloc (.cells #[.pointer none, .pointer (some ⟨bm, 0, none⟩), .int .i32 ln, .int .i32 1, .string txk, .nilIface] 65)).alloc (.cells #[.pointer none, .iface 56 (.pointer (some ⟨w2.heap.size, 0, none⟩)), .pointer (some ⟨bm, 0, none⟩), .int .i32 ln, .int .i32 1, .int .i8 24, (.iface Ty (.pointer (some ⟨by_, 0, none⟩)))] 160)).cell? ⟨w1.heap.size, 5, none⟩ = some v0 ∧ (((w2.alloc (.cells #[.pointer none, .pointer (some ⟨bm, 0, none⟩), .int .i32 ln, .int .i32 1, .string txk, .nilIface] 65)).alloc (.cells #[.pointer none, .iface 56 (.pointer (some ⟨w2.heap.size, 0, none⟩)), .pointer (some ⟨bm, 0, none⟩), .int .i32 ln, .int .i32 1, .int .i8 24, (.iface Ty (.pointer (some ⟨by_, 0, none⟩)))] 160)).alloc (.cells #[(.iface 158 (.pointer (some ⟨(w2.heap.size + 1), 0, none⟩)))] 93)).cell? ⟨w1.heap.size, 5, none⟩ = some v0 ∧
               ∀ v3 w3, w3.ownsRow w.heap.size 93 1 v3 (k + 1) (vs ++ [(.iface 158 (.pointer (some ⟨(w2.heap.size + 1), 0, none⟩)))]) → (((w2.alloc (.cells #[.pointer none, .pointer (some ⟨bm, 0, none⟩), .int .i32 ln, .int .i32 1, .string txk, .nilIface] 65)).alloc (.cells #[.pointer none, .iface 56 (.pointer (some ⟨w2.heap.size, 0, none⟩)), .pointer (some ⟨bm, 0, none⟩), .int .i32 ln, .int .i32 1, .int .i8 24, (.iface Ty (.pointer (some ⟨by_, 0, none⟩)))] 160)).alloc (.cells #[(.iface 158 (.pointer (some ⟨(w2.heap.size + 1), 0, none⟩)))] 93)).grownBy w3 v0.ownBlock → (v3.ownBlock = v0.ownBlock ∨ v3.ownBlock = some (((w2.alloc (.cells #[.pointer none, .pointer (some ⟨bm, 0, none⟩), .int .i32 ln, .int .i32 1, .string txk, .nilIface] 65)).alloc (.cells #[.pointer none, .iface 56 (.pointer (some ⟨w2.heap.size, 0, none⟩)), .pointer (some ⟨bm, 0, none⟩), .int .i32 ln, .int .i32 1, .int .i8 24, (.iface Ty (.pointer (some ⟨by_, 0, none⟩)))] 160)).alloc (.cells #[(.iface 158 (.pointer (some ⟨(w2.heap.size + 1), 0, none⟩)))] 93)).heap.size) →
                 CaRel H bm bi bf q w1.heap.size pb w.heap.size ln (.iface Tx (.pointer (some ⟨bx, 0, none⟩))) cx [.int .i64 14, .int .i64 op, .string tx, .int .i64 v.kd, .bool v.nb, .slice ma v.ms.length mc, .int .u64 v.ub, .string v.tx, .slice ka v.kn kc, .slice (some ⟨rb, ro, none⟩) (l.length + 1) sc, .slice pa 0 pc] w f l (.int .i64 ((k : Int) + 1)) (w3.setCell ⟨w1.heap.size, 5, none⟩ v3) ∧ CaK R B bm pb wr.heap.size ln [.int .i64 15, .int .i64 opk, .string txk, .int .i64 vk.kd, .bool vk.nb, .slice mak vk.ms.length mck, .int .u64 vk.ub, .string vk.tx, .slice kak vk.kn kck, .slice (some ⟨rb2, ro2, none⟩) 1 sck, .slice pak 0 pck] w3 ∧ CaK R B bm pb wr.heap.size ln [.int .i64 15, .int .i64 opk, .string txk, .int .i64 vk.kd, .bool vk.nb, .slice mak vk.ms.length mck, .int .u64 vk.ub, .string vk.tx, .slice kak vk.kn kck, .slice (some ⟨rb2, ro2, none⟩) 1 sck, .slice pak 0 pck] (w3.setCell ⟨w1.heap.size, 5, none⟩ v3) ∧ w3.cell? ⟨w1.heap.size, 5, none⟩ = some v0 ∧ w3.frozen? ⟨w1.heap.size, 5, none⟩ = false) := Li (fun w2 Ty by_ cy bi2 bf2 hs2 hm2 hn2 hcy => by
             have zT := HATT.out.hs.size
             have hl8 := HATT.out.hm.lts
             have z2 := hs2.size
             have hb2 : Below w2.heap.size w2 (((w2.alloc (.cells #[.pointer none, .pointer (some ⟨bm, 0, none⟩), .int .i32 ln, .int .i32 1, .string txk, .nilIface] 65)).alloc (.cells #[.pointer none, .iface 56 (.pointer (some ⟨w2.heap.size, 0, none⟩)), .pointer (some ⟨bm, 0, none⟩), .int .i32 ln, .int .i32 1, .int .i8 24, (.iface Ty (.pointer (some ⟨by_, 0, none⟩)))] 160)).alloc (.cells #[(.iface 158 (.pointer (some ⟨(w2.heap.size + 1), 0, none⟩)))] 93)) := (((Below.refl _ _).alloc (Nat.le_refl _) _).alloc (by simp) _).alloc (by simp; omega) _
             obtain ⟨_, _, _, _, l5, l6⟩ := hm2.lts
             have hu : Blk (((w2.alloc (.cells #[.pointer none, .pointer (some ⟨bm, 0, none⟩), .int .i32 ln, .int .i32 1, .string txk, .nilIface] 65)).alloc (.cells #[.pointer none, .iface 56 (.pointer (some ⟨w2.heap.size, 0, none⟩)), .pointer (some ⟨bm, 0, none⟩), .int .i32 ln, .int .i32 1, .int .i8 24, (.iface Ty (.pointer (some ⟨by_, 0, none⟩)))] 160)).alloc (.cells #[(.iface 158 (.pointer (some ⟨(w2.heap.size + 1), 0, none⟩)))] 93)) (w2.heap.size + 1) 160 [.pointer none, .iface 56 (.pointer (some ⟨w2.heap.size, 0, none⟩)), .pointer (some ⟨bm, 0, none⟩), .int .i32 ln, .int .i32 1, .int .i8 24, (.iface Ty (.pointer (some ⟨by_, 0, none⟩)))] := (by have h0 := (Blk.new (w2.alloc (.cells #[.pointer none, .pointer (some ⟨bm, 0, none⟩), .int .i32 ln, .int .i32 1, .string txk, .nilIface] 65)) 160 [.pointer none, .iface 56 (.pointer (some ⟨w2.heap.size, 0, none⟩)), .pointer (some ⟨bm, 0, none⟩), .int .i32 ln, .int .i32 1, .int .i8 24, (.iface Ty (.pointer (some ⟨by_, 0, none⟩)))]).alloc (.cells #[(.iface 158 (.pointer (some ⟨(w2.heap.size + 1), 0, none⟩)))] 93); simpa using h0)
             have hi : Blk (((w2.alloc (.cells #[.pointer none, .pointer (some ⟨bm, 0, none⟩), .int .i32 ln, .int .i32 1, .string txk, .nilIface] 65)).alloc (.cells #[.pointer none, .iface 56 (.pointer (some ⟨w2.heap.size, 0, none⟩)), .pointer (some ⟨bm, 0, none⟩), .int .i32 ln, .int .i32 1, .int .i8 24, (.iface Ty (.pointer (some ⟨by_, 0, none⟩)))] 160)).alloc (.cells #[(.iface 158 (.pointer (some ⟨(w2.heap.size + 1), 0, none⟩)))] 93)) w2.heap.size 65 [.pointer none, .pointer (some ⟨bm, 0, none⟩), .int .i32 ln, .int .i32 1, .string txk, .nilIface] := ((Blk.new w2 _ _).alloc _).alloc _
             have hnd : Nd (Gx (((w2.alloc (.cells #[.pointer none, .pointer (some ⟨bm, 0, none⟩), .int .i32 ln, .int .i32 1, .string txk, .nilIface] 65)).alloc (.cells #[.pointer none, .iface 56 (.pointer (some ⟨w2.heap.size, 0, none⟩)), .pointer (some ⟨bm, 0, none⟩), .int .i32 ln, .int .i32 1, .int .i8 24, (.iface Ty (.pointer (some ⟨by_, 0, none⟩)))] 160)).alloc (.cells #[(.iface 158 (.pointer (some ⟨(w2.heap.size + 1), 0, none⟩)))] 93)) wt.drew.heap.size [bi2, bf2]) (.iface 158 (.pointer (some ⟨(w2.heap.size + 1), 0, none⟩))) (nmE t) (1 + cy + 1) := by
               rw [HET.out, nmE_mk]
               have := Nd.node (G := Gx (((w2.alloc (.cells #[.pointer none, .pointer (some ⟨bm, 0, none⟩), .int .i32 ln, .int .i32 1, .string txk, .nilIface] 65)).alloc (.cells #[.pointer none, .iface 56 (.pointer (some ⟨w2.heap.size, 0, none⟩)), .pointer (some ⟨bm, 0, none⟩), .int .i32 ln, .int .i32 1, .int .i8 24, (.iface Ty (.pointer (some ⟨by_, 0, none⟩)))] 160)).alloc (.cells #[(.iface 158 (.pointer (some ⟨(w2.heap.size + 1), 0, none⟩)))] 93)) wt.drew.heap.size [bi2, bf2]) 158 160 [(1, .x), (6, .x)] (by simp [tbl]) (w2.heap.size + 1) _ (Gx.of hu (by omega) (by simp; omega)) _ (.x 1 _ _ _ rfl (.x 6 _ _ _ rfl .nil)) _ _ (.cons _ _ _ _ _ _ (.ident w2.heap.size _ txk (Gx.of hi (by omega) (by simp; omega)) rfl) (Nds.one (hn2.mono (Gx.below hb2))))
               simpa using this
             obtain ⟨m1, m2, m3, m4⟩ := HATT.out.more (m' := m + ctE t) HT.out hs2 (hm2.mono (by have := HCTT.out; omega)) hb2 HATT.out.hs.size HATT.out.hx.lt (fun r hr => (HATT.out.rx r hr).2.2.2.2) hnd (by have := HCTT.out; omega)
             have kk : CaK R B bm pb wr.heap.size ln [.int .i64 15, .int .i64 opk, .string txk, .int .i64 vk.kd, .bool vk.nb, .slice mak vk.ms.length mck, .int .u64 vk.ub, .string vk.tx, .slice kak vk.kn kck, .slice (some ⟨rb2, ro2, none⟩) 1 sck, .slice pak 0 pck] w2 := ⟨(hs2.blk HATT.out.hp HATT.out.hp.lt PNT.out.1 PNT.out.2.1 PNT.out.2.2).1, (hs2.blk HKT.out.2.1 HKT.out.2.1.lt ENT.out.1 ENT.out.2.1 ENT.out.2.2).1, HKT.out.2.2.below ((hs2.below (H := H) (by omega) (by omega) (by omega) (by have := HATT.out.hs.size; omega)).mono hBH)⟩
             refine ⟨m1, kk, m2, m3 _ (Below.refl _ _), m3 _ ((Below.refl _ _).alloc (Nat.le_refl _) _), m3 _ (((Below.refl _ _).alloc (Nat.le_refl _) _).alloc (by simp) _), m3 _ hb2, fun v3 w3 h1 h2 h3 => ?_⟩
             obtain ⟨p1, p2, p3, p4, p5⟩ := m4 v3 w3 h1 h2 h3
             have ho3 : Old R B w3 := HO.out.below ((p5.below (H := H) (by omega) (by omega) (by omega) (by omega)).mono hBH)
             have ho4 : Old R B (w3.setCell ⟨w1.heap.size, 5, none⟩ v3) := HO.out.below ((p1.hs.below (H := H) (by omega) (by omega) (by omega) (by omega)).mono hBH)
             refine ⟨⟨k + 1, m + ctE t, v3, _, _, bi2, bf2, by omega, by simp, Li (by rw [HMK.out, take_succ_of HT.out, ctEs_append]; simp [Nat.add_assoc]), Li p1⟩, ⟨(p2 _ _ _ kk.1 (by decide) hpx).1, (p2 _ _ _ kk.2.1 (by decide) hxe).1, ho3⟩, ⟨(p2 _ _ _ kk.1 (by decide) hpx).2, (p2 _ _ _ kk.2.1 (by decide) hxe).2, ho4⟩, p3, p4⟩)
           have hbI : Below wt.drew.heap.size wt.drew (wt.alloc (.cells #[.pointer none, .pointer (some ⟨bm, 0, none⟩), .int .i32 ln, .int .i32 1, .string txk, .nilIface] 65)).drew := (Below.refl _ _).alloc (Nat.le_refl _) _
           have HATI := Li (HATT.out.keep (Stp.of_below hbI) (HATT.out.hm.below hbI))
           have HKI : Hid (CaK R B bm pb wr.heap.size ln [.int .i64 15, .int .i64 opk, .string txk, .int .i64 vk.kd, .bool vk.nb, .slice mak vk.ms.length mck, .int .u64 vk.ub, .string vk.tx, .slice kak vk.kn kck, .slice (some ⟨rb2, ro2, none⟩) 1 sck, .slice pak 0 pck] (wt.alloc (.cells #[.pointer none, .pointer (some ⟨bm, 0, none⟩), .int .i32 ln, .int .i32 1, .string txk, .nilIface] 65)).drew) := Li (KA.out _ _ HKT.out)
           have HID : Hid (Blk (wt.alloc (.cells #[.pointer none, .pointer (some ⟨bm, 0, none⟩), .int .i32 ln, .int .i32 1, .string txk, .nilIface] 65)).drew wt.heap.size 65 [.pointer none, .pointer (some ⟨bm, 0, none⟩), .int .i32 ln, .int .i32 1, .string txk, .nilIface]) := Li (Blk.new wt _ _)
           have IDN := Li (HATI.out.hm.ne HID.out (by decide) (by decide) (by decide))
           have x5i : (wt.alloc (.cells #[.pointer none, .pointer (some ⟨bm, 0, none⟩), .int .i32 ln, .int .i32 1, .string txk, .nilIface] 65)).drew.cell? ⟨w1.heap.size, 5, none⟩ = some v0 := HATI.out.hx.cell 5 (by simp)
           clear hbI
           have ENI := Li (HATI.out.hm.ne HKI.out.2.1 (by decide) (by decide) (by decide))
           have PNI := Li (HATI.out.hm.ne HATI.out.hp (by decide) (by decide) (by decide))
           have MXI := Li (MXS.out (wt.alloc (.cells #[.pointer none, .pointer (some ⟨bm, 0, none⟩), .int .i32 ln, .int .i32 1, .string txk, .nilIface] 65)).drew bi' bf' HKI.out.2.2 HATI.out.hm)
           have STEPI : Hid (∀ (w2 : World) (Ty by_ cy bi2 bf2 : Nat), Stp (wt.alloc (.cells #[.pointer none, .pointer (some ⟨bm, 0, none⟩), .int .i32 ln, .int .i32 1, .string txk, .nilIface] 65)).drew.heap.size (wt.alloc (.cells #[.pointer none, .pointer (some ⟨bm, 0, none⟩), .int .i32 ln, .int .i32 1, .string txk, .nilIface] 65)).drew w2 bm bi' bf' bi2 bf2 → MK w2 H bm bi2 bf2 (q + m + ctE x) → Nd (Gx w2 (wt.alloc (.cells #[.pointer none, .pointer (some ⟨bm, 0, none⟩), .int .i32 ln, .int .i32 1, .string txk, .nilIface] 65)).drew.heap.size [bi2, bf2]) (.iface Ty (.pointer (some ⟨by_, 0, none⟩))) (nmE x) cy → cy + 1 ≤ 3 * ctE x →
               ((w2.alloc (.cells #[.pointer none, .iface 56 (.pointer (some ⟨wt.heap.size, 0, none⟩)), .pointer (some ⟨bm, 0, none⟩), .int .i32 ln, .int .i32 1, .int .i8 24, (.iface Ty (.pointer (some ⟨by_, 0, none⟩)))] 160)).alloc (.cells #[(.iface 158 (.pointer (some ⟨w2.heap.size, 0, none⟩)))] 93)).ownsRow w.heap.size 93 1 v0 k vs ∧ CaK R B bm pb wr.heap.size ln [.int .i64 15, .int .i64 opk, .string txk, .int .i64 vk.kd, .bool vk.nb, .slice mak vk.ms.length mck, .int .u64 vk.ub, .string vk.tx, .slice kak vk.kn kck, .slice (some ⟨rb2, ro2, none⟩) 1 sck, .slice pak 0 pck] w2 ∧ w.heap.size ≤ w2.heap.size ∧ w2.cell? ⟨w1.heap.size, 5, none⟩ = some v0 ∧ (w2.alloc (.cells #[.pointer none, .iface 56 (.pointer (some ⟨wt.heap.size, 0, none⟩)), .pointer (some ⟨bm, 0, none⟩), .int .i32 ln, .int .i32 1, .int .i8 24, (.iface Ty (.pointer (some ⟨by_, 0, none⟩)))] 160)).cell? ⟨w1.heap.size, 5, none⟩ = some v0 ∧ ((w2.alloc (.cells #[.pointer none, .iface 56 (.pointer (some ⟨wt.heap.size, 0, none⟩)), .pointer (some ⟨bm, 0, none⟩), .int .i32 ln, .int .i32 1, .int .i8 24, (.iface Ty (.pointer (some ⟨by_, 0, none⟩)))] 160)).alloc (.cells #[(.iface 158 (.pointer (some ⟨w2.heap.size, 0, none⟩)))] 93)).cell? ⟨w1.heap.size, 5, none⟩ = some v0 ∧
               ∀ v3 w3, w3.ownsRow w.heap.size 93 1 v3 (k + 1) (vs ++ [(.iface 158 (.pointer (some ⟨w2.heap.size, 0, none⟩)))]) → ((w2.alloc (.cells #[.pointer none, .iface 56 (.pointer (some ⟨wt.heap.size, 0, none⟩)), .pointer (some ⟨bm, 0, none⟩), .int .i32 ln, .int .i32 1, .int .i8 24, (.iface Ty (.pointer (some ⟨by_, 0, none⟩)))] 160)).alloc (.cells #[(.iface 158 (.pointer (some ⟨w2.heap.size, 0, none⟩)))] 93)).grownBy w3 v0.ownBlock → (v3.ownBlock = v0.ownBlock ∨ v3.ownBlock = some ((w2.alloc (.cells #[.pointer none, .iface 56 (.pointer (some ⟨wt.heap.size, 0, none⟩)), .pointer (some ⟨bm, 0, none⟩), .int .i32 ln, .int .i32 1, .int .i8 24, (.iface Ty (.pointer (some ⟨by_, 0, none⟩)))] 160)).alloc (.cells #[(.iface 158 (.pointer (some ⟨w2.heap.size, 0, none⟩)))] 93)).heap.size) →
                 CaRel H bm bi bf q w1.heap.size pb w.heap.size ln (.iface Tx (.pointer (some ⟨bx, 0, none⟩))) cx [.int .i64 14, .int .i64 op, .string tx, .int .i64 v.kd, .bool v.nb, .slice ma v.ms.length mc, .int .u64 v.ub, .string v.tx, .slice ka v.kn kc, .slice (some ⟨rb, ro, none⟩) (l.length + 1) sc, .slice pa 0 pc] w f l (.int .i64 ((k : Int) + 1)) (w3.setCell ⟨w1.heap.size, 5, none⟩ v3) ∧ CaK R B bm pb wr.heap.size ln [.int .i64 15, .int .i64 opk, .string txk, .int .i64 vk.kd, .bool vk.nb, .slice mak vk.ms.length mck, .int .u64 vk.ub, .string vk.tx, .slice kak vk.kn kck, .slice (some ⟨rb2, ro2, none⟩) 1 sck, .slice pak 0 pck] w3 ∧ CaK R B bm pb wr.heap.size ln [.int .i64 15, .int .i64 opk, .string txk, .int .i64 vk.kd, .bool vk.nb, .slice mak vk.ms.length mck, .int .u64 vk.ub, .string vk.tx, .slice kak vk.kn kck, .slice (some ⟨rb2, ro2, none⟩) 1 sck, .slice pak 0 pck] (w3.setCell ⟨w1.heap.size, 5, none⟩ v3) ∧ w3.cell? ⟨w1.heap.size, 5, none⟩ = some v0 ∧ w3.frozen? ⟨w1.heap.size, 5, none⟩ = false) := Li (fun w2 Ty by_ cy bi2 bf2 hs2 hm2 hn2 hcy => by
             have zT := HATT.out.hs.size
             have hl8 := HATI.out.hm.lts
             have z2 := hs2.size
             have hb2 : Below w2.heap.size w2 ((w2.alloc (.cells #[.pointer none, .iface 56 (.pointer (some ⟨wt.heap.size, 0, none⟩)), .pointer (some ⟨bm, 0, none⟩), .int .i32 ln, .int .i32 1, .int .i8 24, (.iface Ty (.pointer (some ⟨by_, 0, none⟩)))] 160)).alloc (.cells #[(.iface 158 (.pointer (some ⟨w2.heap.size, 0, none⟩)))] 93)) := ((Below.refl _ _).alloc (Nat.le_refl _) _).alloc (by simp) _
             obtain ⟨_, _, _, _, l5, l6⟩ := hm2.lts
             have hu : Blk ((w2.alloc (.cells #[.pointer none, .iface 56 (.pointer (some ⟨wt.heap.size, 0, none⟩)), .pointer (some ⟨bm, 0, none⟩), .int .i32 ln, .int .i32 1, .int .i8 24, (.iface Ty (.pointer (some ⟨by_, 0, none⟩)))] 160)).alloc (.cells #[(.iface 158 (.pointer (some ⟨w2.heap.size, 0, none⟩)))] 93)) w2.heap.size 160 [.pointer none, .iface 56 (.pointer (some ⟨wt.heap.size, 0, none⟩)), .pointer (some ⟨bm, 0, none⟩), .int .i32 ln, .int .i32 1, .int .i8 24, (.iface Ty (.pointer (some ⟨by_, 0, none⟩)))] := (Blk.new w2 _ _).alloc _
             have hsi : (wt.alloc (.cells #[.pointer none, .pointer (some ⟨bm, 0, none⟩), .int .i32 ln, .int .i32 1, .string txk, .nilIface] 65)).drew.heap.size = wt.heap.size + 1 := by simp
             have hi : Blk ((w2.alloc (.cells #[.pointer none, .iface 56 (.pointer (some ⟨wt.heap.size, 0, none⟩)), .pointer (some ⟨bm, 0, none⟩), .int .i32 ln, .int .i32 1, .int .i8 24, (.iface Ty (.pointer (some ⟨by_, 0, none⟩)))] 160)).alloc (.cells #[(.iface 158 (.pointer (some ⟨w2.heap.size, 0, none⟩)))] 93)) wt.heap.size 65 [.pointer none, .pointer (some ⟨bm, 0, none⟩), .int .i32 ln, .int .i32 1, .string txk, .nilIface] := ((hs2.blk HID.out HID.out.lt IDN.out.1 IDN.out.2.1 IDN.out.2.2).1.alloc _).alloc _
             have hin : wt.heap.size ≠ bi2 ∧ wt.heap.size ≠ bf2 := (hs2.blk HID.out HID.out.lt IDN.out.1 IDN.out.2.1 IDN.out.2.2).2
             have hnd : Nd (Gx ((w2.alloc (.cells #[.pointer none, .iface 56 (.pointer (some ⟨wt.heap.size, 0, none⟩)), .pointer (some ⟨bm, 0, none⟩), .int .i32 ln, .int .i32 1, .int .i8 24, (.iface Ty (.pointer (some ⟨by_, 0, none⟩)))] 160)).alloc (.cells #[(.iface 158 (.pointer (some ⟨w2.heap.size, 0, none⟩)))] 93)) wt.drew.heap.size [bi2, bf2]) (.iface 158 (.pointer (some ⟨w2.heap.size, 0, none⟩))) (nmE t) (1 + cy + 1) := by
               rw [HET.out, nmE_mk]
               have := Nd.node (G := Gx ((w2.alloc (.cells #[.pointer none, .iface 56 (.pointer (some ⟨wt.heap.size, 0, none⟩)), .pointer (some ⟨bm, 0, none⟩), .int .i32 ln, .int .i32 1, .int .i8 24, (.iface Ty (.pointer (some ⟨by_, 0, none⟩)))] 160)).alloc (.cells #[(.iface 158 (.pointer (some ⟨w2.heap.size, 0, none⟩)))] 93)) wt.drew.heap.size [bi2, bf2]) 158 160 [(1, .x), (6, .x)] (by simp [tbl]) w2.heap.size _ (Gx.of hu (by simp; omega) (by simp; omega)) _ (.x 1 _ _ _ rfl (.x 6 _ _ _ rfl .nil)) _ _ (.cons _ _ _ _ _ _ (.ident wt.heap.size _ txk (Gx.of hi (by simp) (by simp; exact hin)) rfl) (Nds.one ((hn2.mono (Gx.below hb2)).mono (Gx.le (lo' := wt.drew.heap.size) (w' := ((w2.alloc (.cells #[.pointer none, .iface 56 (.pointer (some ⟨wt.heap.size, 0, none⟩)), .pointer (some ⟨bm, 0, none⟩), .int .i32 ln, .int .i32 1, .int .i8 24, (.iface Ty (.pointer (some ⟨by_, 0, none⟩)))] 160)).alloc (.cells #[(.iface 158 (.pointer (some ⟨w2.heap.size, 0, none⟩)))] 93))) (ex' := [bi2, bf2]) (by simp) fun b _ _ h3 => ⟨h3, rfl⟩))))
               simpa using this
             obtain ⟨m1, m2, m3, m4⟩ := HATI.out.more (m' := m + ctE t) HT.out hs2 (hm2.mono (by have := HCTT.out; omega)) hb2 HATT.out.hs.size HATT.out.hx.lt (fun r hr => (HATT.out.rx r hr).2.2.2.2) hnd (by have := HCTT.out; omega)
             have kk : CaK R B bm pb wr.heap.size ln [.int .i64 15, .int .i64 opk, .string txk, .int .i64 vk.kd, .bool vk.nb, .slice mak vk.ms.length mck, .int .u64 vk.ub, .string vk.tx, .slice kak vk.kn kck, .slice (some ⟨rb2, ro2, none⟩) 1 sck, .slice pak 0 pck] w2 := ⟨(hs2.blk HATI.out.hp HATI.out.hp.lt PNI.out.1 PNI.out.2.1 PNI.out.2.2).1, (hs2.blk HKI.out.2.1 HKI.out.2.1.lt ENI.out.1 ENI.out.2.1 ENI.out.2.2).1, HKI.out.2.2.below ((hs2.below (H := H) (by omega) (by omega) (by omega) (by have := HATI.out.hs.size; omega)).mono hBH)⟩
             refine ⟨m1, kk, m2, m3 _ (Below.refl _ _), m3 _ ((Below.refl _ _).alloc (Nat.le_refl _) _), m3 _ hb2, fun v3 w3 h1 h2 h3 => ?_⟩
             obtain ⟨p1, p2, p3, p4, p5⟩ := m4 v3 w3 h1 h2 h3
             have ho3 : Old R B w3 := HO.out.below ((p5.below (H := H) (by omega) (by omega) (by omega) (by omega)).mono hBH)
             have ho4 : Old R B (w3.setCell ⟨w1.heap.size, 5, none⟩ v3) := HO.out.below ((p1.hs.below (H := H) (by omega) (by omega) (by omega) (by omega)).mono hBH)
             refine ⟨⟨k + 1, m + ctE t, v3, _, _, bi2, bf2, by omega, by simp, Li (by rw [HMK.out, take_succ_of HT.out, ctEs_append]; simp [Nat.add_assoc]), Li p1⟩, ⟨(p2 _ _ _ kk.1 (by decide) hpx).1, (p2 _ _ _ kk.2.1 (by decide) hxe).1, ho3⟩, ⟨(p2 _ _ _ kk.1 (by decide) hpx).2, (p2 _ _ _ kk.2.1 (by decide) hxe).2, ho4⟩, p3, p4⟩)
           have kk0 : wt.cell? ⟨wr.heap.size, 0, none⟩ = some (.int .i64 15) := HKT.out.2.1.cell 0 (by simp)
           clear hst hmt hatT
           go_upto_region 12 with fail
           refine AnyL.begin 25 (fun W => W.cell? ⟨w1.heap.size, 5, none⟩ = some v0 ∧ W.cell? ⟨wr.heap.size, 2, none⟩ = some (.string txk) ∧ W.cell? ⟨pb, 0, none⟩ = some (.pointer (some ⟨bm, 0, none⟩)) ∧ W.cell? ⟨pb, 1, none⟩ = some (.int .i32 ln) ∧ W.cell? ⟨pb, 2, none⟩ = some (.int .i32 1) ∧ W.cell? ⟨wr.heap.size, 9, none⟩ = some (.slice (some ⟨rb2, ro2, none⟩) 1 sck) ∧ W.cell? ⟨rb2, ro2, none⟩ = some (.int .i64 kd2) ∧ W.cell? ⟨rb2, ro2 + 1, none⟩ = some (.int .i64 op2) ∧ W.cell? ⟨rb2, ro2 + 2, none⟩ = some (.string tx2) ∧ W.cell? ⟨rb2, ro2 + 3, none⟩ = some (.int .i64 v2.kd) ∧ W.cell? ⟨rb2, ro2 + 4, none⟩ = some (.bool v2.nb) ∧ W.cell? ⟨rb2, ro2 + 5, none⟩ = some (.slice ma2 v2.ms.length mc2) ∧ W.cell? ⟨rb2, ro2 + 6, none⟩ = some (.int .u64 v2.ub) ∧ W.cell? ⟨rb2, ro2 + 7, none⟩ = some (.string v2.tx) ∧ W.cell? ⟨rb2, ro2 + 8, none⟩ = some (.slice ka2 v2.kn kc2) ∧ W.cell? ⟨rb2, ro2 + 9, none⟩ = some (.slice sa2 ca2.length sc2) ∧ W.cell? ⟨rb2, ro2 + 10, none⟩ = some (.slice pa2 cb2.length pc2)) (by kernel_rfl) ?_ (fun hHeld => ?_)
           · (try dsimp only)
             with_reducible first | exact KS.out _ HKT.out x5 | exact KS.out _ HKI.out x5i | exact KS.out _ HK1.out x51 | exact KS.out _ (KA.out _ _ HK1.out) x52 | exact KS.out _ (KA.out _ _ (KA.out _ _ HK1.out)) x53 | exact KS.out _ (KA.out _ _ (KA.out _ _ (KA.out _ _ HK1.out))) x54 | exact KS.out _ HK3.out x59 | fail
           refine tlA 0 ?_
           refine tlA 1 ?_
           refine tlA 2 ?_
           refine tlA 3 ?_
           refine tlA 4 ?_
           refine tlA 5 ?_
           refine tlA 6 ?_
           refine tlA 7 ?_
           refine tlA 8 ?_
           refine tlA 11 ?_
           refine tlA 12 ?_
           refine tlA 13 ?_
           refine tlA 14 ?_
           refine tlA 15 ?_
           refine tlA 16 ?_
           refine AnyL.ready (rs := [9, 17]) (by kernel_rfl) (by simp) ?_
           refine ReadyL.cons (o := _) (by simp only [List.getElem?_toArray, List.getElem?_cons_zero, List.getElem?_cons_succ]; rfl) (fun K hK => ?_) (ReadyL.cons (o := _) (by simp only [List.getElem?_toArray, List.getElem?_cons_zero, List.getElem?_cons_succ]; rfl) (fun K hK => ?_) ReadyL.nil)
           · go_simp
             refine hK.out _ _ ?_ (fun hHeld => ?_)
             · (try dsimp only)
               with_reducible first | exact KS.out _ HKT.out x5 | exact KS.out _ HKI.out x5i | exact KS.out _ HK1.out x51 | exact KS.out _ (KA.out _ _ HK1.out) x52 | exact KS.out _ (KA.out _ _ (KA.out _ _ HK1.out)) x53 | exact KS.out _ (KA.out _ _ (KA.out _ _ (KA.out _ _ HK1.out))) x54 | exact KS.out _ HK3.out x59 | fail
             clear hK K
             try simp only [Act.put, sA, s0, s1]
             refine tlA 10 ?_
             refine AnyL.ready (rs := [17]) (by kernel_rfl) (by simp) ?_
             refine ReadyL.cons (o := _) (by simp only [List.getElem?_toArray, List.getElem?_cons_zero, List.getElem?_cons_succ]; rfl) (fun K hK => ?_) ReadyL.nil
             go_simp
             go_at_call 45
             with_reducible refine MXI.out.mono ?_
             rintro e w2 ⟨Ty, by_, cy, bi2, bf2, rfl, hs2, hm2, hn2, hcy⟩
             obtain ⟨ow2, hk1, hw2, x51, x52, x53, stp⟩ := STEPI.out w2 Ty by_ cy bi2 bf2 hs2 hm2 hn2 hcy
             have OW2 := Li ow2
             have HK1 := Li hk1
             have STP := Li stp
             have HW2 := Li hw2
             clear hs2 hm2 hn2 hcy ow2 hk1 hw2 stp
             refine hK.out _ _ ?_ (fun hHeld => ?_)
             · (try dsimp only)
               with_reducible first | exact KS.out _ HKT.out x5 | exact KS.out _ HKI.out x5i | exact KS.out _ HK1.out x51 | exact KS.out _ (KA.out _ _ HK1.out) x52 | exact KS.out _ (KA.out _ _ (KA.out _ _ HK1.out)) x53 | exact KS.out _ (KA.out _ _ (KA.out _ _ (KA.out _ _ HK1.out))) x54 | exact KS.out _ HK3.out x59 | fail
             clear hK K
             try simp only [Act.put, sA, s0, s1]
             refine tlA 18 ?_
             refine AnyL.ready (rs := [19]) (by kernel_rfl) (by simp) ?_
             refine ReadyL.cons (o := _) (by simp only [List.getElem?_toArray, List.getElem?_cons_zero, List.getElem?_cons_succ]; rfl) (fun K hK => ?_) ReadyL.nil
             go_simp
             refine hK.out _ _ ?_ (fun hHeld => ?_)
             · (try dsimp only)
               with_reducible first | exact KS.out _ HKT.out x5 | exact KS.out _ HKI.out x5i | exact KS.out _ HK1.out x51 | exact KS.out _ (KA.out _ _ HK1.out) x52 | exact KS.out _ (KA.out _ _ (KA.out _ _ HK1.out)) x53 | exact KS.out _ (KA.out _ _ (KA.out _ _ (KA.out _ _ HK1.out))) x54 | exact KS.out _ HK3.out x59 | fail
             clear hK K
             try simp only [Act.put, sA, s0, s1]
             refine tlA 20 ?_
             refine AnyL.ready (rs := [21]) (by kernel_rfl) (by simp) ?_
             refine ReadyL.cons (o := _) (by simp only [List.getElem?_toArray, List.getElem?_cons_zero, List.getElem?_cons_succ]; rfl) (fun K hK => ?_) ReadyL.nil
             go_simp
             refine hK.out _ _ ?_ (fun hHeld => ?_)
             · (try dsimp only)
               with_reducible first | exact KS.out _ HKT.out x5 | exact KS.out _ HKI.out x5i | exact KS.out _ HK1.out x51 | exact KS.out _ (KA.out _ _ HK1.out) x52 | exact KS.out _ (KA.out _ _ (KA.out _ _ HK1.out)) x53 | exact KS.out _ (KA.out _ _ (KA.out _ _ (KA.out _ _ HK1.out))) x54 | exact KS.out _ HK3.out x59 | fail
             clear hK K
             try simp only [Act.put, sA, s0, s1]
             refine AnyL.ready (rs := [22]) (by kernel_rfl) (by simp) ?_
             refine ReadyL.cons (o := _) (by simp only [List.getElem?_toArray, List.getElem?_cons_zero, List.getElem?_cons_succ]; rfl) (fun K hK => ?_) ReadyL.nil
             refine step_append_to _ rfl (.tmp 73) (.tmp 90) 106 rfl w.heap.size 93 iE _ 16 Tryz.underlying106 hiE hzE hsE hbE rfl v0 k _ rfl OW2.out _ _ _ rfl (Sl.one _ _ _ (by simp)) (by intro u hu; simp at hu; subst hu; rfl) (by unfold maxLen; simp; omega) (by simp; omega) (by have := HW2.out; simp; omega) ?_
             intro v3 w3 g1 g2 g3
             obtain ⟨a3, cc3, rfl⟩ := own_form g1
             obtain ⟨fs, hk3, hk4, x59, xf3⟩ := STP.out _ w3 g1 g2 g3
             have FS := Li fs
             have HK3 := Li hk3
             clear g1 g2 g3 fs hk3 hk4
             refine hK.out _ _ ?_ (fun hHeld => ?_)
             · (try dsimp only)
               with_reducible first | exact KS.out _ HKT.out x5 | exact KS.out _ HKI.out x5i | exact KS.out _ HK1.out x51 | exact KS.out _ (KA.out _ _ HK1.out) x52 | exact KS.out _ (KA.out _ _ (KA.out _ _ HK1.out)) x53 | exact KS.out _ (KA.out _ _ (KA.out _ _ (KA.out _ _ HK1.out))) x54 | exact KS.out _ HK3.out x59 | fail
             clear hK K
             try simp only [Act.put, sA, s0, s1]
             refine AnyL.ready (rs := [23]) (by kernel_rfl) (by simp) ?_
             refine ReadyL.cons (o := _) (by simp only [List.getElem?_toArray, List.getElem?_cons_zero, List.getElem?_cons_succ]; rfl) (fun K hK => ?_) ReadyL.nil
             go_simp
             refine hK.out _ _ ?_ (fun hHeld => ?_)
             · (try dsimp only)
               with_reducible first | exact KS.out _ HKT.out x5 | exact KS.out _ HKI.out x5i | exact KS.out _ HK1.out x51 | exact KS.out _ (KA.out _ _ HK1.out) x52 | exact KS.out _ (KA.out _ _ (KA.out _ _ HK1.out)) x53 | exact KS.out _ (KA.out _ _ (KA.out _ _ (KA.out _ _ HK1.out))) x54 | exact KS.out _ HK3.out x59 | fail
             clear hK K
             try simp only [Act.put, sA, s0, s1]
             refine tlA 24 ?_
             refine AnyL.ready (rs := [25]) (by kernel_rfl) (by simp) ?_
             refine ReadyL.last (o := _) (by simp only [List.getElem?_toArray, List.getElem?_cons_zero, List.getElem?_cons_succ]; rfl) (fun K hK => ?_)
             go_simp
             refine hK.out _ _ ?_
             clear hK K
             refine AnyL.done (by kernel_rfl) ?_ _
             try simp only [Act.put, sA, s0, s1]
             go_wp2_with fail
             go_roundw
             case rel => first | exact FS.out | ((repeat apply Exists.intro); exact ⟨FS.out, rfl⟩)
             case measure => simp [intOf]; omega
           · go_simp
             go_at_call 45
             with_reducible refine MX.out.mono ?_
             rintro e w2 ⟨Ty, by_, cy, bi2, bf2, rfl, hs2, hm2, hn2, hcy⟩
             obtain ⟨ow2, hk1, hw2, x51, x52, x53, x54, stp⟩ := STEPD.out w2 Ty by_ cy bi2 bf2 hs2 hm2 hn2 hcy
             have OW2 := Li ow2
             have HK1 := Li hk1
             have STP := Li stp
             have HW2 := Li hw2
             clear hs2 hm2 hn2 hcy ow2 hk1 hw2 stp
             refine hK.out _ _ ?_ (fun hHeld => ?_)
             · (try dsimp only)
               with_reducible first | exact KS.out _ HKT.out x5 | exact KS.out _ HKI.out x5i | exact KS.out _ HK1.out x51 | exact KS.out _ (KA.out _ _ HK1.out) x52 | exact KS.out _ (KA.out _ _ (KA.out _ _ HK1.out)) x53 | exact KS.out _ (KA.out _ _ (KA.out _ _ (KA.out _ _ HK1.out))) x54 | exact KS.out _ HK3.out x59 | fail
             clear hK K
             try simp only [Act.put, sA, s0, s1]
             refine AnyL.ready (rs := [9]) (by kernel_rfl) (by simp) ?_
             refine ReadyL.cons (o := _) (by simp only [List.getElem?_toArray, List.getElem?_cons_zero, List.getElem?_cons_succ]; rfl) (fun K hK => ?_) ReadyL.nil
             go_simp
             refine hK.out _ _ ?_ (fun hHeld => ?_)
             · (try dsimp only)
               with_reducible first | exact KS.out _ HKT.out x5 | exact KS.out _ HKI.out x5i | exact KS.out _ HK1.out x51 | exact KS.out _ (KA.out _ _ HK1.out) x52 | exact KS.out _ (KA.out _ _ (KA.out _ _ HK1.out)) x53 | exact KS.out _ (KA.out _ _ (KA.out _ _ (KA.out _ _ HK1.out))) x54 | exact KS.out _ HK3.out x59 | fail
             clear hK K
             try simp only [Act.put, sA, s0, s1]
             refine tlA 10 ?_
             refine tlA 18 ?_
             refine AnyL.ready (rs := [19]) (by kernel_rfl) (by simp) ?_
             refine ReadyL.cons (o := _) (by simp only [List.getElem?_toArray, List.getElem?_cons_zero, List.getElem?_cons_succ]; rfl) (fun K hK => ?_) ReadyL.nil
             go_simp
             refine hK.out _ _ ?_ (fun hHeld => ?_)
             · (try dsimp only)
               with_reducible first | exact KS.out _ HKT.out x5 | exact KS.out _ HKI.out x5i | exact KS.out _ HK1.out x51 | exact KS.out _ (KA.out _ _ HK1.out) x52 | exact KS.out _ (KA.out _ _ (KA.out _ _ HK1.out)) x53 | exact KS.out _ (KA.out _ _ (KA.out _ _ (KA.out _ _ HK1.out))) x54 | exact KS.out _ HK3.out x59 | fail
             clear hK K
             try simp only [Act.put, sA, s0, s1]
             refine tlA 20 ?_
             refine AnyL.ready (rs := [21]) (by kernel_rfl) (by simp) ?_
             refine ReadyL.cons (o := _) (by simp only [List.getElem?_toArray, List.getElem?_cons_zero, List.getElem?_cons_succ]; rfl) (fun K hK => ?_) ReadyL.nil
             go_simp
             refine hK.out _ _ ?_ (fun hHeld => ?_)
             · (try dsimp only)
               with_reducible first | exact KS.out _ HKT.out x5 | exact KS.out _ HKI.out x5i | exact KS.out _ HK1.out x51 | exact KS.out _ (KA.out _ _ HK1.out) x52 | exact KS.out _ (KA.out _ _ (KA.out _ _ HK1.out)) x53 | exact KS.out _ (KA.out _ _ (KA.out _ _ (KA.out _ _ HK1.out))) x54 | exact KS.out _ HK3.out x59 | fail
             clear hK K
             try simp only [Act.put, sA, s0, s1]
             refine AnyL.ready (rs := [22]) (by kernel_rfl) (by simp) ?_
             refine ReadyL.cons (o := _) (by simp only [List.getElem?_toArray, List.getElem?_cons_zero, List.getElem?_cons_succ]; rfl) (fun K hK => ?_) ReadyL.nil
             refine step_append_to _ rfl (.tmp 73) (.tmp 90) 106 rfl w.heap.size 93 iE _ 16 Tryz.underlying106 hiE hzE hsE hbE rfl v0 k _ rfl OW2.out _ _ _ rfl (Sl.one _ _ _ (by simp)) (by intro u hu; simp at hu; subst hu; rfl) (by unfold maxLen; simp; omega) (by simp; omega) (by have := HW2.out; simp; omega) ?_
             intro v3 w3 g1 g2 g3
             obtain ⟨a3, cc3, rfl⟩ := own_form g1
             obtain ⟨fs, hk3, hk4, x59, xf3⟩ := STP.out _ w3 g1 g2 g3
             have FS := Li fs
             have HK3 := Li hk3
             clear g1 g2 g3 fs hk3 hk4
             refine hK.out _ _ ?_ (fun hHeld => ?_)
             · (try dsimp only)
               with_reducible first | exact KS.out _ HKT.out x5 | exact KS.out _ HKI.out x5i | exact KS.out _ HK1.out x51 | exact KS.out _ (KA.out _ _ HK1.out) x52 | exact KS.out _ (KA.out _ _ (KA.out _ _ HK1.out)) x53 | exact KS.out _ (KA.out _ _ (KA.out _ _ (KA.out _ _ HK1.out))) x54 | exact KS.out _ HK3.out x59 | fail
             clear hK K
             try simp only [Act.put, sA, s0, s1]
             refine AnyL.ready (rs := [23]) (by kernel_rfl) (by simp) ?_
             refine ReadyL.cons (o := _) (by simp only [List.getElem?_toArray, List.getElem?_cons_zero, List.getElem?_cons_succ]; rfl) (fun K hK => ?_) ReadyL.nil
             go_simp
             refine hK.out _ _ ?_ (fun hHeld => ?_)
             · (try dsimp only)
               with_reducible first | exact KS.out _ HKT.out x5 | exact KS.out _ HKI.out x5i | exact KS.out _ HK1.out x51 | exact KS.out _ (KA.out _ _ HK1.out) x52 | exact KS.out _ (KA.out _ _ (KA.out _ _ HK1.out)) x53 | exact KS.out _ (KA.out _ _ (KA.out _ _ (KA.out _ _ HK1.out))) x54 | exact KS.out _ HK3.out x59 | fail
             clear hK K
             try simp only [Act.put, sA, s0, s1]
             refine tlA 24 ?_
             refine AnyL.ready (rs := [25]) (by kernel_rfl) (by simp) ?_
             refine ReadyL.last (o := _) (by simp only [List.getElem?_toArray, List.getElem?_cons_zero, List.getElem?_cons_succ]; rfl) (fun K hK => ?_)
             go_simp
             refine hK.out _ _ ?_
             clear hK K
             refine AnyL.done (by kernel_rfl) ?_ _
             try simp only [Act.put, sA, s0, s1]
             go_wp2_with fail
             go_roundw
             case rel => first | exact FS.out | ((repeat apply Exists.intro); exact ⟨FS.out, rfl⟩)
             case measure => simp [intOf]; omega
         · go_wp2_with fail
           refine WT.out.mono ?_
           rintro e wt ⟨rfl, hst, hmt⟩
           have hatT := HAT0.out.keep hst (m' := m) hmt
           have hzt := hatT.hs.size
           have hl9 := HAT0.out.hm.lts
           have HATT : Hid (CaAt H bm bi bf q w1.heap.size pb w.heap.size ln (.iface Tx (.pointer (some ⟨bx, 0, none⟩))) cx [.int .i64 14, .int .i64 op, .string tx, .int .i64 v.kd, .bool v.nb, .slice ma v.ms.length mc, .int .u64 v.ub, .string v.tx, .slice ka v.kn kc, .slice (some ⟨rb, ro, none⟩) (l.length + 1) sc, .slice pa 0 pc] w f l k m v0 vs cn bi' bf' wt.drew) := Li (hatT.keep (Stp.refl _ _ _ _ _).drew hatT.hm.drew)
           have HKT : Hid (CaK R B bm pb wr.heap.size ln [.int .i64 16, .int .i64 opk, .string txk, .int .i64 vk.kd, .bool vk.nb, .slice mak vk.ms.length mck, .int .u64 vk.ub, .string vk.tx, .slice kak vk.kn kck, .slice (some ⟨rb2, ro2, none⟩) 1 sck, .slice pak 0 pck] wt.drew) := Li ⟨HATT.out.hp, (hst.blk HE0.out HE0.out.lt EN.out.1 EN.out.2.1 EN.out.2.2).1, show Old R B wt from HO0.out.below ((hst.below (H := H) (by omega) (by omega) (by omega) (by have := HAT0.out.hs.size; omega)).mono hBH)⟩
           have hpx : pb ≠ w1.heap.size := by intro e0; have h1 := HATT.out.hx; rw [← e0] at h1; exact absurd (h1.inj HATT.out.hp).1 (by decide)
           have KS : Hid (∀ W, CaK R B bm pb wr.heap.size ln [.int .i64 16, .int .i64 opk, .string txk, .int .i64 vk.kd, .bool vk.nb, .slice mak vk.ms.length mck, .int .u64 vk.ub, .string vk.tx, .slice kak vk.kn kck, .slice (some ⟨rb2, ro2, none⟩) 1 sck, .slice pak 0 pck] W → W.cell? ⟨w1.heap.size, 5, none⟩ = some v0 → W.cell? ⟨w1.heap.size, 5, none⟩ = some v0 ∧ W.cell? ⟨pb, 0, none⟩ = some (.pointer (some ⟨bm, 0, none⟩)) ∧ W.cell? ⟨pb, 1, none⟩ = some (.int .i32 ln) ∧ W.cell? ⟨pb, 2, none⟩ = some (.int .i32 1) ∧ W.cell? ⟨wr.heap.size, 9, none⟩ = some (.slice (some ⟨rb2, ro2, none⟩) 1 sck) ∧ W.cell? ⟨rb2, ro2, none⟩ = some (.int .i64 kd2) ∧ W.cell? ⟨rb2, ro2 + 1, none⟩ = some (.int .i64 op2) ∧ W.cell? ⟨rb2, ro2 + 2, none⟩ = some (.string tx2) ∧ W.cell? ⟨rb2, ro2 + 3, none⟩ = some (.int .i64 v2.kd) ∧ W.cell? ⟨rb2, ro2 + 4, none⟩ = some (.bool v2.nb) ∧ W.cell? ⟨rb2, ro2 + 5, none⟩ = some (.slice ma2 v2.ms.length mc2) ∧ W.cell? ⟨rb2, ro2 + 6, none⟩ = some (.int .u64 v2.ub) ∧ W.cell? ⟨rb2, ro2 + 7, none⟩ = some (.string v2.tx) ∧ W.cell? ⟨rb2, ro2 + 8, none⟩ = some (.slice ka2 v2.kn kc2) ∧ W.cell? ⟨rb2, ro2 + 9, none⟩ = some (.slice sa2 ca2.length sc2) ∧ W.cell? ⟨rb2, ro2 + 10, none⟩ = some (.slice pa2 cb2.length pc2)) := Li (fun W h hx => ⟨hx, h.1.cell 0 (by simp), h.1.cell 1 (by simp), h.1.cell 2 (by simp), h.2.1.cell 9 (by simp), HR2.out B W h.2.2⟩)
           have KA : Hid (∀ (W : World) (o : Obj), CaK R B bm pb wr.heap.size ln [.int .i64 16, .int .i64 opk, .string txk, .int .i64 vk.kd, .bool vk.nb, .slice mak vk.ms.length mck, .int .u64 vk.ub, .string vk.tx, .slice kak vk.kn kck, .slice (some ⟨rb2, ro2, none⟩) 1 sck, .slice pak 0 pck] W → CaK R B bm pb wr.heap.size ln [.int .i64 16, .int .i64 opk, .string txk, .int .i64 vk.kd, .bool vk.nb, .slice mak vk.ms.length mck, .int .u64 vk.ub, .string vk.tx, .slice kak vk.kn kck, .slice (some ⟨rb2, ro2, none⟩) 1 sck, .slice pak 0 pck] (W.alloc o)) := Li (fun W o h => h.alloc o)
           have x5 : wt.drew.cell? ⟨w1.heap.size, 5, none⟩ = some v0 := HATT.out.hx.cell 5 (by simp)
           have ENT := Li (HATT.out.hm.ne HKT.out.2.1 (by decide) (by decide) (by decide))
           have PNT := Li (HATT.out.hm.ne HATT.out.hp (by decide) (by decide) (by decide))
           have MX := Li (MXS.out wt.drew bi' bf' HKT.out.2.2 HATT.out.hm)
           have STEPD : Hid (∀ (w2 : World) (Ty by_ cy bi2 bf2 : Nat), Stp wt.drew.heap.size wt.drew w2 bm bi' bf' bi2 bf2 → MK w2 H bm bi2 bf2 (q + m + ctE x) → Nd (Gx w2 wt.drew.heap.size [bi2, bf2]) (.iface Ty (.pointer (some ⟨by_, 0, none⟩))) (nmE x) cy → cy + 1 ≤ 3 * ctE x →
               ((w2.alloc (.cells #[.pointer none, .pointer (some ⟨bm, 0, none⟩), .int .i32 ln, .int .i32 1, .int .i8 12, (.iface Ty (.pointer (some ⟨by_, 0, none⟩)))] 157)).alloc (.cells #[(.iface 155 (.pointer (some ⟨w2.heap.size, 0, none⟩)))] 93)).ownsRow w.heap.size 93 1 v0 k vs ∧ CaK R B bm pb wr.heap.size ln [.int .i64 16, .int .i64 opk, .string txk, .int .i64 vk.kd, .bool vk.nb, .slice mak vk.ms.length mck, .int .u64 vk.ub, .string vk.tx, .slice kak vk.kn kck, .slice (some ⟨rb2, ro2, none⟩) 1 sck, .slice pak 0 pck] w2 ∧ w.heap.size ≤ w2.heap.size ∧ w2.cell? ⟨w1.heap.size, 5, none⟩ = some v0 ∧ (w2.alloc (.cells #[.pointer none, .pointer (some ⟨bm, 0, none⟩), .int .i32 ln, .int .i32 1, .int .i8 12, (.iface Ty (.pointer (some ⟨by_, 0, none⟩)))] 157)).cell? ⟨w1.heap.size, 5, none⟩ = some v0 ∧ ((w2.alloc (.cells #[.pointer none, .pointer (some ⟨bm, 0, none⟩), .int .i32 ln, .int .i32 1, .int .i8 12, (.iface Ty (.pointer (some ⟨by_, 0, none⟩)))] 157)).alloc (.cells #[(.iface 155 (.pointer (some ⟨w2.heap.size, 0, none⟩)))] 93)).cell? ⟨w1.heap.size, 5, none⟩ = some v0 ∧
               ∀ v3 w3, w3.ownsRow w.heap.size 93 1 v3 (k + 1) (vs ++ [(.iface 155 (.pointer (some ⟨w2.heap.size, 0, none⟩)))]) → ((w2.alloc (.cells #[.pointer none, .pointer (some ⟨bm, 0, none⟩), .int .i32 ln, .int .i32 1, .int .i8 12, (.iface Ty (.pointer (some ⟨by_, 0, none⟩)))] 157)).alloc (.cells #[(.iface 155 (.pointer (some ⟨w2.heap.size, 0, none⟩)))] 93)).grownBy w3 v0.ownBlock → (v3.ownBlock = v0.ownBlock ∨ v3.ownBlock = some ((w2.alloc (.cells #[.pointer none, .pointer (some ⟨bm, 0, none⟩), .int .i32 ln, .int .i32 1, .int .i8 12, (.iface Ty (.pointer (some ⟨by_, 0, none⟩)))] 157)).alloc (.cells #[(.iface 155 (.pointer (some ⟨w2.heap.size, 0, none⟩)))] 93)).heap.size) →
                 CaRel H bm bi bf q w1.heap.size pb w.heap.size ln (.iface Tx (.pointer (some ⟨bx, 0, none⟩))) cx [.int .i64 14, .int .i64 op, .string tx, .int .i64 v.kd, .bool v.nb, .slice ma v.ms.length mc, .int .u64 v.ub, .string v.tx, .slice ka v.kn kc, .slice (some ⟨rb, ro, none⟩) (l.length + 1) sc, .slice pa 0 pc] w f l (.int .i64 ((k : Int) + 1)) (w3.setCell ⟨w1.heap.size, 5, none⟩ v3) ∧ CaK R B bm pb wr.heap.size ln [.int .i64 16, .int .i64 opk, .string txk, .int .i64 vk.kd, .bool vk.nb, .slice mak vk.ms.length mck, .int .u64 vk.ub, .string vk.tx, .slice kak vk.kn kck, .slice (some ⟨rb2, ro2, none⟩) 1 sck, .slice pak 0 pck] w3 ∧ CaK R B bm pb wr.heap.size ln [.int .i64 16, .int .i64 opk, .string txk, .int .i64 vk.kd, .bool vk.nb, .slice mak vk.ms.length mck, .int .u64 vk.ub, .string vk.tx, .slice kak vk.kn kck, .slice (some ⟨rb2, ro2, none⟩) 1 sck, .slice pak 0 pck] (w3.setCell ⟨w1.heap.size, 5, none⟩ v3) ∧ w3.cell? ⟨w1.heap.size, 5, none⟩ = some v0 ∧ w3.frozen? ⟨w1.heap.size, 5, none⟩ = false) := Li (fun w2 Ty by_ cy bi2 bf2 hs2 hm2 hn2 hcy => by
             have zT := HATT.out.hs.size
             have hl8 := HATT.out.hm.lts
             have z2 := hs2.size
             have hb2 : Below w2.heap.size w2 ((w2.alloc (.cells #[.pointer none, .pointer (some ⟨bm, 0, none⟩), .int .i32 ln, .int .i32 1, .int .i8 12, (.iface Ty (.pointer (some ⟨by_, 0, none⟩)))] 157)).alloc (.cells #[(.iface 155 (.pointer (some ⟨w2.heap.size, 0, none⟩)))] 93)) := ((Below.refl _ _).alloc (Nat.le_refl _) _).alloc (by simp) _
             obtain ⟨_, _, _, _, l5, l6⟩ := hm2.lts
             have hu : Blk ((w2.alloc (.cells #[.pointer none, .pointer (some ⟨bm, 0, none⟩), .int .i32 ln, .int .i32 1, .int .i8 12, (.iface Ty (.pointer (some ⟨by_, 0, none⟩)))] 157)).alloc (.cells #[(.iface 155 (.pointer (some ⟨w2.heap.size, 0, none⟩)))] 93)) w2.heap.size 157 [.pointer none, .pointer (some ⟨bm, 0, none⟩), .int .i32 ln, .int .i32 1, .int .i8 12, (.iface Ty (.pointer (some ⟨by_, 0, none⟩)))] := (Blk.new w2 _ _).alloc _
             have hnd : Nd (Gx ((w2.alloc (.cells #[.pointer none, .pointer (some ⟨bm, 0, none⟩), .int .i32 ln, .int .i32 1, .int .i8 12, (.iface Ty (.pointer (some ⟨by_, 0, none⟩)))] 157)).alloc (.cells #[(.iface 155 (.pointer (some ⟨w2.heap.size, 0, none⟩)))] 93)) wt.drew.heap.size [bi2, bf2]) (.iface 155 (.pointer (some ⟨w2.heap.size, 0, none⟩))) (nmE t) (cy + 1) := by
               rw [HET.out, nmE_mk]
               have := Nd.node (G := Gx ((w2.alloc (.cells #[.pointer none, .pointer (some ⟨bm, 0, none⟩), .int .i32 ln, .int .i32 1, .int .i8 12, (.iface Ty (.pointer (some ⟨by_, 0, none⟩)))] 157)).alloc (.cells #[(.iface 155 (.pointer (some ⟨w2.heap.size, 0, none⟩)))] 93)) wt.drew.heap.size [bi2, bf2]) 155 157 [(5, .o)] (by simp [tbl]) w2.heap.size _ (Gx.of hu (by omega) (by simp; omega)) _ (.some 5 _ _ _ rfl .nil) _ _ (Nds.one (hn2.mono (Gx.below hb2)))
               simpa using this
             obtain ⟨m1, m2, m3, m4⟩ := HATT.out.more (m' := m + ctE t) HT.out hs2 (hm2.mono (by have := HCTT.out; omega)) hb2 HATT.out.hs.size HATT.out.hx.lt (fun r hr => (HATT.out.rx r hr).2.2.2.2) hnd (by have := HCTT.out; omega)
             have kk : CaK R B bm pb wr.heap.size ln [.int .i64 16, .int .i64 opk, .string txk, .int .i64 vk.kd, .bool vk.nb, .slice mak vk.ms.length mck, .int .u64 vk.ub, .string vk.tx, .slice kak vk.kn kck, .slice (some ⟨rb2, ro2, none⟩) 1 sck, .slice pak 0 pck] w2 := ⟨(hs2.blk HATT.out.hp HATT.out.hp.lt PNT.out.1 PNT.out.2.1 PNT.out.2.2).1, (hs2.blk HKT.out.2.1 HKT.out.2.1.lt ENT.out.1 ENT.out.2.1 ENT.out.2.2).1, HKT.out.2.2.below ((hs2.below (H := H) (by omega) (by omega) (by omega) (by have := HATT.out.hs.size; omega)).mono hBH)⟩
             refine ⟨m1, kk, m2, m3 _ (Below.refl _ _), m3 _ ((Below.refl _ _).alloc (Nat.le_refl _) _), m3 _ hb2, fun v3 w3 h1 h2 h3 => ?_⟩
             obtain ⟨p1, p2, p3, p4, p5⟩ := m4 v3 w3 h1 h2 h3
             have ho3 : Old R B w3 := HO.out.below ((p5.below (H := H) (by omega) (by omega) (by omega) (by omega)).mono hBH)
             have ho4 : Old R B (w3.setCell ⟨w1.heap.size, 5, none⟩ v3) := HO.out.below ((p1.hs.below (H := H) (by omega) (by omega) (by omega) (by omega)).mono hBH)
             refine ⟨⟨k + 1, m + ctE t, v3, _, _, bi2, bf2, by omega, by simp, Li (by rw [HMK.out, take_succ_of HT.out, ctEs_append]; simp [Nat.add_assoc]), Li p1⟩, ⟨(p2 _ _ _ kk.1 (by decide) hpx).1, (p2 _ _ _ kk.2.1 (by decide) hxe).1, ho3⟩, ⟨(p2 _ _ _ kk.1 (by decide) hpx).2, (p2 _ _ _ kk.2.1 (by decide) hxe).2, ho4⟩, p3, p4⟩)
           have kk0 : wt.cell? ⟨wr.heap.size, 0, none⟩ = some (.int .i64 16) := HKT.out.2.1.cell 0 (by simp)
           clear hst hmt hatT
           go_upto_region 14 with fail
           refine AnyL.begin 19 (fun W => W.cell? ⟨w1.heap.size, 5, none⟩ = some v0 ∧ W.cell? ⟨pb, 0, none⟩ = some (.pointer (some ⟨bm, 0, none⟩)) ∧ W.cell? ⟨pb, 1, none⟩ = some (.int .i32 ln) ∧ W.cell? ⟨pb, 2, none⟩ = some (.int .i32 1) ∧ W.cell? ⟨wr.heap.size, 9, none⟩ = some (.slice (some ⟨rb2, ro2, none⟩) 1 sck) ∧ W.cell? ⟨rb2, ro2, none⟩ = some (.int .i64 kd2) ∧ W.cell? ⟨rb2, ro2 + 1, none⟩ = some (.int .i64 op2) ∧ W.cell? ⟨rb2, ro2 + 2, none⟩ = some (.string tx2) ∧ W.cell? ⟨rb2, ro2 + 3, none⟩ = some (.int .i64 v2.kd) ∧ W.cell? ⟨rb2, ro2 + 4, none⟩ = some (.bool v2.nb) ∧ W.cell? ⟨rb2, ro2 + 5, none⟩ = some (.slice ma2 v2.ms.length mc2) ∧ W.cell? ⟨rb2, ro2 + 6, none⟩ = some (.int .u64 v2.ub) ∧ W.cell? ⟨rb2, ro2 + 7, none⟩ = some (.string v2.tx) ∧ W.cell? ⟨rb2, ro2 + 8, none⟩ = some (.slice ka2 v2.kn kc2) ∧ W.cell? ⟨rb2, ro2 + 9, none⟩ = some (.slice sa2 ca2.length sc2) ∧ W.cell? ⟨rb2, ro2 + 10, none⟩ = some (.slice pa2 cb2.length pc2)) (by kernel_rfl) ?_ (fun hHeld => ?_)
           · (try dsimp only)
             with_reducible first | exact KS.out _ HKT.out x5 | exact KS.out _ HK1.out x51 | exact KS.out _ (KA.out _ _ HK1.out) x52 | exact KS.out _ (KA.out _ _ (KA.out _ _ HK1.out)) x53 | exact KS.out _ HK3.out x59 | fail
           refine tlA 0 ?_
           refine tlA 1 ?_
           refine tlA 2 ?_
           refine tlA 3 ?_
           refine tlA 4 ?_
           refine tlA 5 ?_
           refine tlA 6 ?_
           refine tlA 7 ?_
           refine tlA 8 ?_
           refine tlA 9 ?_
           refine tlA 10 ?_
           refine AnyL.ready (rs := [11]) (by kernel_rfl) (by simp) ?_
           refine ReadyL.cons (o := _) (by simp only [List.getElem?_toArray, List.getElem?_cons_zero, List.getElem?_cons_succ]; rfl) (fun K hK => ?_) ReadyL.nil
           go_simp
           go_at_call 45
           with_reducible refine MX.out.mono ?_
           rintro e w2 ⟨Ty, by_, cy, bi2, bf2, rfl, hs2, hm2, hn2, hcy⟩
           obtain ⟨ow2, hk1, hw2, x51, x52, x53, stp⟩ := STEPD.out w2 Ty by_ cy bi2 bf2 hs2 hm2 hn2 hcy
           have OW2 := Li ow2
           have HK1 := Li hk1
           have STP := Li stp
           have HW2 := Li hw2
           clear hs2 hm2 hn2 hcy ow2 hk1 hw2 stp
           refine hK.out _ _ ?_ (fun hHeld => ?_)
           · (try dsimp only)
             with_reducible first | exact KS.out _ HKT.out x5 | exact KS.out _ HK1.out x51 | exact KS.out _ (KA.out _ _ HK1.out) x52 | exact KS.out _ (KA.out _ _ (KA.out _ _ HK1.out)) x53 | exact KS.out _ HK3.out x59 | fail
           clear hK K
           try simp only [Act.put, sA, s0, s1]
           refine tlA 12 ?_
           refine AnyL.ready (rs := [13]) (by kernel_rfl) (by simp) ?_
           refine ReadyL.cons (o := _) (by simp only [List.getElem?_toArray, List.getElem?_cons_zero, List.getElem?_cons_succ]; rfl) (fun K hK => ?_) ReadyL.nil
           go_simp
           refine hK.out _ _ ?_ (fun hHeld => ?_)
           · (try dsimp only)
             with_reducible first | exact KS.out _ HKT.out x5 | exact KS.out _ HK1.out x51 | exact KS.out _ (KA.out _ _ HK1.out) x52 | exact KS.out _ (KA.out _ _ (KA.out _ _ HK1.out)) x53 | exact KS.out _ HK3.out x59 | fail
           clear hK K
           try simp only [Act.put, sA, s0, s1]
           refine tlA 14 ?_
           refine AnyL.ready (rs := [15]) (by kernel_rfl) (by simp) ?_
           refine ReadyL.cons (o := _) (by simp only [List.getElem?_toArray, List.getElem?_cons_zero, List.getElem?_cons_succ]; rfl) (fun K hK => ?_) ReadyL.nil
           go_simp
           refine hK.out _ _ ?_ (fun hHeld => ?_)
           · (try dsimp only)
             with_reducible first | exact KS.out _ HKT.out x5 | exact KS.out _ HK1.out x51 | exact KS.out _ (KA.out _ _ HK1.out) x52 | exact KS.out _ (KA.out _ _ (KA.out _ _ HK1.out)) x53 | exact KS.out _ HK3.out x59 | fail
           clear hK K
           try simp only [Act.put, sA, s0, s1]
           refine AnyL.ready (rs := [16]) (by kernel_rfl) (by simp) ?_
           refine ReadyL.cons (o := _) (by simp only [List.getElem?_toArray, List.getElem?_cons_zero, List.getElem?_cons_succ]; rfl) (fun K hK => ?_) ReadyL.nil
           refine step_append_to _ rfl (.tmp 100) (.tmp 111) 106 rfl w.heap.size 93 iE _ 16 Tryz.underlying106 hiE hzE hsE hbE rfl v0 k _ rfl OW2.out _ _ _ rfl (Sl.one _ _ _ (by simp)) (by intro u hu; simp at hu; subst hu; rfl) (by unfold maxLen; simp; omega) (by simp; omega) (by have := HW2.out; simp; omega) ?_
           intro v3 w3 g1 g2 g3
           obtain ⟨a3, cc3, rfl⟩ := own_form g1
           obtain ⟨fs, hk3, hk4, x59, xf3⟩ := STP.out _ w3 g1 g2 g3
           have FS := Li fs
           have HK3 := Li hk3
           clear g1 g2 g3 fs hk3 hk4
           refine hK.out _ _ ?_ (fun hHeld => ?_)
           · (try dsimp only)
             with_reducible first | exact KS.out _ HKT.out x5 | exact KS.out _ HK1.out x51 | exact KS.out _ (KA.out _ _ HK1.out) x52 | exact KS.out _ (KA.out _ _ (KA.out _ _ HK1.out)) x53 | exact KS.out _ HK3.out x59 | fail
           clear hK K
           try simp only [Act.put, sA, s0, s1]
           refine AnyL.ready (rs := [17]) (by kernel_rfl) (by simp) ?_
           refine ReadyL.cons (o := _) (by simp only [List.getElem?_toArray, List.getElem?_cons_zero, List.getElem?_cons_succ]; rfl) (fun K hK => ?_) ReadyL.nil
           go_simp
           refine hK.out _ _ ?_ (fun hHeld => ?_)
           · (try dsimp only)
             with_reducible first | exact KS.out _ HKT.out x5 | exact KS.out _ HK1.out x51 | exact KS.out _ (KA.out _ _ HK1.out) x52 | exact KS.out _ (KA.out _ _ (KA.out _ _ HK1.out)) x53 | exact KS.out _ HK3.out x59 | fail
           clear hK K
           try simp only [Act.put, sA, s0, s1]
           refine tlA 18 ?_
           refine AnyL.ready (rs := [19]) (by kernel_rfl) (by simp) ?_
           refine ReadyL.last (o := _) (by simp only [List.getElem?_toArray, List.getElem?_cons_zero, List.getElem?_cons_succ]; rfl) (fun K hK => ?_)
           go_simp
           refine hK.out _ _ ?_
           clear hK K
           refine AnyL.done (by kernel_rfl) ?_ _
           try simp only [Act.put, sA, s0, s1]
           go_wp2_with fail
           go_roundw
           case rel => first | exact FS.out | ((repeat apply Exists.intro); exact ⟨FS.out, rfl⟩)
           case measure => simp [intOf]; omega
         · go_wp2_with fail
           refine WT.out.mono ?_
           rintro e wt ⟨rfl, hst, hmt⟩
           have hatT := HAT0.out.keep hst (m' := m) hmt
           have hzt := hatT.hs.size
           have hl9 := HAT0.out.hm.lts
           have HATT : Hid (CaAt H bm bi bf q w1.heap.size pb w.heap.size ln (.iface Tx (.pointer (some ⟨bx, 0, none⟩))) cx [.int .i64 14, .int .i64 op, .string tx, .int .i64 v.kd, .bool v.nb, .slice ma v.ms.length mc, .int .u64 v.ub, .string v.tx, .slice ka v.kn kc, .slice (some ⟨rb, ro, none⟩) (l.length + 1) sc, .slice pa 0 pc] w f l k m v0 vs cn bi' bf' wt.drew) := Li (hatT.keep (Stp.refl _ _ _ _ _).drew hatT.hm.drew)
           have HKT : Hid (CaK R B bm pb wr.heap.size ln [.int .i64 17, .int .i64 opk, .string txk, .int .i64 vk.kd, .bool vk.nb, .slice mak vk.ms.length mck, .int .u64 vk.ub, .string vk.tx, .slice kak vk.kn kck, .slice (some ⟨rb2, ro2, none⟩) 1 sck, .slice pak 0 pck] wt.drew) := Li ⟨HATT.out.hp, (hst.blk HE0.out HE0.out.lt EN.out.1 EN.out.2.1 EN.out.2.2).1, show Old R B wt from HO0.out.below ((hst.below (H := H) (by omega) (by omega) (by omega) (by have := HAT0.out.hs.size; omega)).mono hBH)⟩
           have hpx : pb ≠ w1.heap.size := by intro e0; have h1 := HATT.out.hx; rw [← e0] at h1; exact absurd (h1.inj HATT.out.hp).1 (by decide)
           have KS : Hid (∀ W, CaK R B bm pb wr.heap.size ln [.int .i64 17, .int .i64 opk, .string txk, .int .i64 vk.kd, .bool vk.nb, .slice mak vk.ms.length mck, .int .u64 vk.ub, .string vk.tx, .slice kak vk.kn kck, .slice (some ⟨rb2, ro2, none⟩) 1 sck, .slice pak 0 pck] W → W.cell? ⟨w1.heap.size, 5, none⟩ = some v0 → W.cell? ⟨w1.heap.size, 5, none⟩ = some v0 ∧ W.cell? ⟨pb, 0, none⟩ = some (.pointer (some ⟨bm, 0, none⟩)) ∧ W.cell? ⟨pb, 1, none⟩ = some (.int .i32 ln) ∧ W.cell? ⟨pb, 2, none⟩ = some (.int .i32 1) ∧ W.cell? ⟨wr.heap.size, 9, none⟩ = some (.slice (some ⟨rb2, ro2, none⟩) 1 sck) ∧ W.cell? ⟨rb2, ro2, none⟩ = some (.int .i64 kd2) ∧ W.cell? ⟨rb2, ro2 + 1, none⟩ = some (.int .i64 op2) ∧ W.cell? ⟨rb2, ro2 + 2, none⟩ = some (.string tx2) ∧ W.cell? ⟨rb2, ro2 + 3, none⟩ = some (.int .i64 v2.kd) ∧ W.cell? ⟨rb2, ro2 + 4, none⟩ = some (.bool v2.nb) ∧ W.cell? ⟨rb2, ro2 + 5, none⟩ = some (.slice ma2 v2.ms.length mc2) ∧ W.cell? ⟨rb2, ro2 + 6, none⟩ = some (.int .u64 v2.ub) ∧ W.cell? ⟨rb2, ro2 + 7, none⟩ = some (.string v2.tx) ∧ W.cell? ⟨rb2, ro2 + 8, none⟩ = some (.slice ka2 v2.kn kc2) ∧ W.cell? ⟨rb2, ro2 + 9, none⟩ = some (.slice sa2 ca2.length sc2) ∧ W.cell? ⟨rb2, ro2 + 10, none⟩ = some (.slice pa2 cb2.length pc2)) := Li (fun W h hx => ⟨hx, h.1.cell 0 (by simp), h.1.cell 1 (by simp), h.1.cell 2 (by simp), h.2.1.cell 9 (by simp), HR2.out B W h.2.2⟩)
           have KA : Hid (∀ (W : World) (o : Obj), CaK R B bm pb wr.heap.size ln [.int .i64 17, .int .i64 opk, .string txk, .int .i64 vk.kd, .bool vk.nb, .slice mak vk.ms.length mck, .int .u64 vk.ub, .string vk.tx, .slice kak vk.kn kck, .slice (some ⟨rb2, ro2, none⟩) 1 sck, .slice pak 0 pck] W → CaK R B bm pb wr.heap.size ln [.int .i64 17, .int .i64 opk, .string txk, .int .i64 vk.kd, .bool vk.nb, .slice mak vk.ms.length mck, .int .u64 vk.ub, .string vk.tx, .slice kak vk.kn kck, .slice (some ⟨rb2, ro2, none⟩) 1 sck, .slice pak 0 pck] (W.alloc o)) := Li (fun W o h => h.alloc o)
           have x5 : wt.drew.cell? ⟨w1.heap.size, 5, none⟩ = some v0 := HATT.out.hx.cell 5 (by simp)
           have ENT := Li (HATT.out.hm.ne HKT.out.2.1 (by decide) (by decide) (by decide))
           have PNT := Li (HATT.out.hm.ne HATT.out.hp (by decide) (by decide) (by decide))
           have MX := Li (MXS.out wt.drew bi' bf' HKT.out.2.2 HATT.out.hm)
           have STEPD : Hid (∀ (w2 : World) (Ty by_ cy bi2 bf2 : Nat), Stp wt.drew.heap.size wt.drew w2 bm bi' bf' bi2 bf2 → MK w2 H bm bi2 bf2 (q + m + ctE x) → Nd (Gx w2 wt.drew.heap.size [bi2, bf2]) (.iface Ty (.pointer (some ⟨by_, 0, none⟩))) (nmE x) cy → cy + 1 ≤ 3 * ctE x →
               ((w2.alloc (.cells #[.pointer none, .pointer (some ⟨bm, 0, none⟩), .int .i32 ln, .int .i32 1, .int .i8 50, (.iface Ty (.pointer (some ⟨by_, 0, none⟩)))] 157)).alloc (.cells #[(.iface 155 (.pointer (some ⟨w2.heap.size, 0, none⟩)))] 93)).ownsRow w.heap.size 93 1 v0 k vs ∧ CaK R B bm pb wr.heap.size ln [.int .i64 17, .int .i64 opk, .string txk, .int .i64 vk.kd, .bool vk.nb, .slice mak vk.ms.length mck, .int .u64 vk.ub, .string vk.tx, .slice kak vk.kn kck, .slice (some ⟨rb2, ro2, none⟩) 1 sck, .slice pak 0 pck] w2 ∧ w.heap.size ≤ w2.heap.size ∧ w2.cell? ⟨w1.heap.size, 5, none⟩ = some v0 ∧ (w2.alloc (.cells #[.pointer none, .pointer (some ⟨bm, 0, none⟩), .int .i32 ln, .int .i32 1, .int .i8 50, (.iface Ty (.pointer (some ⟨by_, 0, none⟩)))] 157)).cell? ⟨w1.heap.size, 5, none⟩ = some v0 ∧ ((w2.alloc (.cells #[.pointer none, .pointer (some ⟨bm, 0, none⟩), .int .i32 ln, .int .i32 1, .int .i8 50, (.iface Ty (.pointer (some ⟨by_, 0, none⟩)))] 157)).alloc (.cells #[(.iface 155 (.pointer (some ⟨w2.heap.size, 0, none⟩)))] 93)).cell? ⟨w1.heap.size, 5, none⟩ = some v0 ∧
               ∀ v3 w3, w3.ownsRow w.heap.size 93 1 v3 (k + 1) (vs ++ [(.iface 155 (.pointer (some ⟨w2.heap.size, 0, none⟩)))]) → ((w2.alloc (.cells #[.pointer none, .pointer (some ⟨bm, 0, none⟩), .int .i32 ln, .int .i32 1, .int .i8 50, (.iface Ty (.pointer (some ⟨by_, 0, none⟩)))] 157)).alloc (.cells #[(.iface 155 (.pointer (some ⟨w2.heap.size, 0, none⟩)))] 93)).grownBy w3 v0.ownBlock → (v3.ownBlock = v0.ownBlock ∨ v3.ownBlock = some ((w2.alloc (.cells #[.pointer none, .pointer (some ⟨bm, 0, none⟩), .int .i32 ln, .int .i32 1, .int .i8 50, (.iface Ty (.pointer (some ⟨by_, 0, none⟩)))] 157)).alloc (.cells #[(.iface 155 (.pointer (some ⟨w2.heap.size, 0, none⟩)))] 93)).heap.size) →
                 CaRel H bm bi bf q w1.heap.size pb w.heap.size ln (.iface Tx (.pointer (some ⟨bx, 0, none⟩))) cx [.int .i64 14, .int .i64 op, .string tx, .int .i64 v.kd, .bool v.nb, .slice ma v.ms.length mc, .int .u64 v.ub, .string v.tx, .slice ka v.kn kc, .slice (some ⟨rb, ro, none⟩) (l.length + 1) sc, .slice pa 0 pc] w f l (.int .i64 ((k : Int) + 1)) (w3.setCell ⟨w1.heap.size, 5, none⟩ v3) ∧ CaK R B bm pb wr.heap.size ln [.int .i64 17, .int .i64 opk, .string txk, .int .i64 vk.kd, .bool vk.nb, .slice mak vk.ms.length mck, .int .u64 vk.ub, .string vk.tx, .slice kak vk.kn kck, .slice (some ⟨rb2, ro2, none⟩) 1 sck, .slice pak 0 pck] w3 ∧ CaK R B bm pb wr.heap.size ln [.int .i64 17, .int .i64 opk, .string txk, .int .i64 vk.kd, .bool vk.nb, .slice mak vk.ms.length mck, .int .u64 vk.ub, .string vk.tx, .slice kak vk.kn kck, .slice (some ⟨rb2, ro2, none⟩) 1 sck, .slice pak 0 pck] (w3.setCell ⟨w1.heap.size, 5, none⟩ v3) ∧ w3.cell? ⟨w1.heap.size, 5, none⟩ = some v0 ∧ w3.frozen? ⟨w1.heap.size, 5, none⟩ = false) := Li (fun w2 Ty by_ cy bi2 bf2 hs2 hm2 hn2 hcy => by
             have zT := HATT.out.hs.size
             have hl8 := HATT.out.hm.lts
             have z2 := hs2.size
             have hb2 : Below w2.heap.size w2 ((w2.alloc (.cells #[.pointer none, .pointer (some ⟨bm, 0, none⟩), .int .i32 ln, .int .i32 1, .int .i8 50, (.iface Ty (.pointer (some ⟨by_, 0, none⟩)))] 157)).alloc (.cells #[(.iface 155 (.pointer (some ⟨w2.heap.size, 0, none⟩)))] 93)) := ((Below.refl _ _).alloc (Nat.le_refl _) _).alloc (by simp) _
             obtain ⟨_, _, _, _, l5, l6⟩ := hm2.lts
             have hu : Blk ((w2.alloc (.cells #[.pointer none, .pointer (some ⟨bm, 0, none⟩), .int .i32 ln, .int .i32 1, .int .i8 50, (.iface Ty (.pointer (some ⟨by_, 0, none⟩)))] 157)).alloc (.cells #[(.iface 155 (.pointer (some ⟨w2.heap.size, 0, none⟩)))] 93)) w2.heap.size 157 [.pointer none, .pointer (some ⟨bm, 0, none⟩), .int .i32 ln, .int .i32 1, .int .i8 50, (.iface Ty (.pointer (some ⟨by_, 0, none⟩)))] := (Blk.new w2 _ _).alloc _
             have hnd : Nd (Gx ((w2.alloc (.cells #[.pointer none, .pointer (some ⟨bm, 0, none⟩), .int .i32 ln, .int .i32 1, .int .i8 50, (.iface Ty (.pointer (some ⟨by_, 0, none⟩)))] 157)).alloc (.cells #[(.iface 155 (.pointer (some ⟨w2.heap.size, 0, none⟩)))] 93)) wt.drew.heap.size [bi2, bf2]) (.iface 155 (.pointer (some ⟨w2.heap.size, 0, none⟩))) (nmE t) (cy + 1) := by
               rw [HET.out, nmE_mk]
               have := Nd.node (G := Gx ((w2.alloc (.cells #[.pointer none, .pointer (some ⟨bm, 0, none⟩), .int .i32 ln, .int .i32 1, .int .i8 50, (.iface Ty (.pointer (some ⟨by_, 0, none⟩)))] 157)).alloc (.cells #[(.iface 155 (.pointer (some ⟨w2.heap.size, 0, none⟩)))] 93)) wt.drew.heap.size [bi2, bf2]) 155 157 [(5, .o)] (by simp [tbl]) w2.heap.size _ (Gx.of hu (by omega) (by simp; omega)) _ (.some 5 _ _ _ rfl .nil) _ _ (Nds.one (hn2.mono (Gx.below hb2)))
               simpa using this
             obtain ⟨m1, m2, m3, m4⟩ := HATT.out.more (m' := m + ctE t) HT.out hs2 (hm2.mono (by have := HCTT.out; omega)) hb2 HATT.out.hs.size HATT.out.hx.lt (fun r hr => (HATT.out.rx r hr).2.2.2.2) hnd (by have := HCTT.out; omega)
             have kk : CaK R B bm pb wr.heap.size ln [.int .i64 17, .int .i64 opk, .string txk, .int .i64 vk.kd, .bool vk.nb, .slice mak vk.ms.length mck, .int .u64 vk.ub, .string vk.tx, .slice kak vk.kn kck, .slice (some ⟨rb2, ro2, none⟩) 1 sck, .slice pak 0 pck] w2 := ⟨(hs2.blk HATT.out.hp HATT.out.hp.lt PNT.out.1 PNT.out.2.1 PNT.out.2.2).1, (hs2.blk HKT.out.2.1 HKT.out.2.1.lt ENT.out.1 ENT.out.2.1 ENT.out.2.2).1, HKT.out.2.2.below ((hs2.below (H := H) (by omega) (by omega) (by omega) (by have := HATT.out.hs.size; omega)).mono hBH)⟩
             refine ⟨m1, kk, m2, m3 _ (Below.refl _ _), m3 _ ((Below.refl _ _).alloc (Nat.le_refl _) _), m3 _ hb2, fun v3 w3 h1 h2 h3 => ?_⟩
             obtain ⟨p1, p2, p3, p4, p5⟩ := m4 v3 w3 h1 h2 h3
             have ho3 : Old R B w3 := HO.out.below ((p5.below (H := H) (by omega) (by omega) (by omega) (by omega)).mono hBH)
             have ho4 : Old R B (w3.setCell ⟨w1.heap.size, 5, none⟩ v3) := HO.out.below ((p1.hs.below (H := H) (by omega) (by omega) (by omega) (by omega)).mono hBH)
             refine ⟨⟨k + 1, m + ctE t, v3, _, _, bi2, bf2, by omega, by simp, Li (by rw [HMK.out, take_succ_of HT.out, ctEs_append]; simp [Nat.add_assoc]), Li p1⟩, ⟨(p2 _ _ _ kk.1 (by decide) hpx).1, (p2 _ _ _ kk.2.1 (by decide) hxe).1, ho3⟩, ⟨(p2 _ _ _ kk.1 (by decide) hpx).2, (p2 _ _ _ kk.2.1 (by decide) hxe).2, ho4⟩, p3, p4⟩)
           have kk0 : wt.cell? ⟨wr.heap.size, 0, none⟩ = some (.int .i64 17) := HKT.out.2.1.cell 0 (by simp)
           clear hst hmt hatT
           go_upto_region 16 with fail
           refine AnyL.begin 19 (fun W => W.cell? ⟨w1.heap.size, 5, none⟩ = some v0 ∧ W.cell? ⟨pb, 0, none⟩ = some (.pointer (some ⟨bm, 0, none⟩)) ∧ W.cell? ⟨pb, 1, none⟩ = some (.int .i32 ln) ∧ W.cell? ⟨pb, 2, none⟩ = some (.int .i32 1) ∧ W.cell? ⟨wr.heap.size, 9, none⟩ = some (.slice (some ⟨rb2, ro2, none⟩) 1 sck) ∧ W.cell? ⟨rb2, ro2, none⟩ = some (.int .i64 kd2) ∧ W.cell? ⟨rb2, ro2 + 1, none⟩ = some (.int .i64 op2) ∧ W.cell? ⟨rb2, ro2 + 2, none⟩ = some (.string tx2) ∧ W.cell? ⟨rb2, ro2 + 3, none⟩ = some (.int .i64 v2.kd) ∧ W.cell? ⟨rb2, ro2 + 4, none⟩ = some (.bool v2.nb) ∧ W.cell? ⟨rb2, ro2 + 5, none⟩ = some (.slice ma2 v2.ms.length mc2) ∧ W.cell? ⟨rb2, ro2 + 6, none⟩ = some (.int .u64 v2.ub) ∧ W.cell? ⟨rb2, ro2 + 7, none⟩ = some (.string v2.tx) ∧ W.cell? ⟨rb2, ro2 + 8, none⟩ = some (.slice ka2 v2.kn kc2) ∧ W.cell? ⟨rb2, ro2 + 9, none⟩ = some (.slice sa2 ca2.length sc2) ∧ W.cell? ⟨rb2, ro2 + 10, none⟩ = some (.slice pa2 cb2.length pc2)) (by kernel_rfl) ?_ (fun hHeld => ?_)
           · (try dsimp only)
             with_reducible first | exact KS.out _ HKT.out x5 | exact KS.out _ HK1.out x51 | exact KS.out _ (KA.out _ _ HK1.out) x52 | exact KS.out _ (KA.out _ _ (KA.out _ _ HK1.out)) x53 | exact KS.out _ HK3.out x59 | fail
           refine tlA 0 ?_
           refine tlA 1 ?_
           refine tlA 2 ?_
           refine tlA 3 ?_
           refine tlA 4 ?_
           refine tlA 5 ?_
           refine tlA 6 ?_
           refine tlA 7 ?_
           refine tlA 8 ?_
           refine tlA 9 ?_
           refine tlA 10 ?_
           refine AnyL.ready (rs := [11]) (by kernel_rfl) (by simp) ?_
           refine ReadyL.cons (o := _) (by simp only [List.getElem?_toArray, List.getElem?_cons_zero, List.getElem?_cons_succ]; rfl) (fun K hK => ?_) ReadyL.nil
           go_simp
           go_at_call 45
           with_reducible refine MX.out.mono ?_
           rintro e w2 ⟨Ty, by_, cy, bi2, bf2, rfl, hs2, hm2, hn2, hcy⟩
           obtain ⟨ow2, hk1, hw2, x51, x52, x53, stp⟩ := STEPD.out w2 Ty by_ cy bi2 bf2 hs2 hm2 hn2 hcy
           have OW2 := Li ow2
           have HK1 := Li hk1
           have STP := Li stp
           have HW2 := Li hw2
           clear hs2 hm2 hn2 hcy ow2 hk1 hw2 stp
           refine hK.out _ _ ?_ (fun hHeld => ?_)
           · (try dsimp only)
             with_reducible first | exact KS.out _ HKT.out x5 | exact KS.out _ HK1.out x51 | exact KS.out _ (KA.out _ _ HK1.out) x52 | exact KS.out _ (KA.out _ _ (KA.out _ _ HK1.out)) x53 | exact KS.out _ HK3.out x59 | fail
           clear hK K
           try simp only [Act.put, sA, s0, s1]
           refine tlA 12 ?_
           refine AnyL.ready (rs := [13]) (by kernel_rfl) (by simp) ?_
           refine ReadyL.cons (o := _) (by simp only [List.getElem?_toArray, List.getElem?_cons_zero, List.getElem?_cons_succ]; rfl) (fun K hK => ?_) ReadyL.nil
           go_simp
           refine hK.out _ _ ?_ (fun hHeld => ?_)
           · (try dsimp only)
             with_reducible first | exact KS.out _ HKT.out x5 | exact KS.out _ HK1.out x51 | exact KS.out _ (KA.out _ _ HK1.out) x52 | exact KS.out _ (KA.out _ _ (KA.out _ _ HK1.out)) x53 | exact KS.out _ HK3.out x59 | fail
           clear hK K
           try simp only [Act.put, sA, s0, s1]
           refine tlA 14 ?_
           refine AnyL.ready (rs := [15]) (by kernel_rfl) (by simp) ?_
           refine ReadyL.cons (o := _) (by simp only [List.getElem?_toArray, List.getElem?_cons_zero, List.getElem?_cons_succ]; rfl) (fun K hK => ?_) ReadyL.nil
           go_simp
           refine hK.out _ _ ?_ (fun hHeld => ?_)
           · (try dsimp only)
             with_reducible first | exact KS.out _ HKT.out x5 | exact KS.out _ HK1.out x51 | exact KS.out _ (KA.out _ _ HK1.out) x52 | exact KS.out _ (KA.out _ _ (KA.out _ _ HK1.out)) x53 | exact KS.out _ HK3.out x59 | fail
           clear hK K
           try simp only [Act.put, sA, s0, s1]
           refine AnyL.ready (rs := [16]) (by kernel_rfl) (by simp) ?_
           refine ReadyL.cons (o := _) (by simp only [List.getElem?_toArray, List.getElem?_cons_zero, List.getElem?_cons_succ]; rfl) (fun K hK => ?_) ReadyL.nil
           refine step_append_to _ rfl (.tmp 121) (.tmp 132) 106 rfl w.heap.size 93 iE _ 16 Tryz.underlying106 hiE hzE hsE hbE rfl v0 k _ rfl OW2.out _ _ _ rfl (Sl.one _ _ _ (by simp)) (by intro u hu; simp at hu; subst hu; rfl) (by unfold maxLen; simp; omega) (by simp; omega) (by have := HW2.out; simp; omega) ?_
           intro v3 w3 g1 g2 g3
           obtain ⟨a3, cc3, rfl⟩ := own_form g1
           obtain ⟨fs, hk3, hk4, x59, xf3⟩ := STP.out _ w3 g1 g2 g3
           have FS := Li fs
           have HK3 := Li hk3
           clear g1 g2 g3 fs hk3 hk4
           refine hK.out _ _ ?_ (fun hHeld => ?_)
           · (try dsimp only)
             with_reducible first | exact KS.out _ HKT.out x5 | exact KS.out _ HK1.out x51 | exact KS.out _ (KA.out _ _ HK1.out) x52 | exact KS.out _ (KA.out _ _ (KA.out _ _ HK1.out)) x53 | exact KS.out _ HK3.out x59 | fail
           clear hK K
           try simp only [Act.put, sA, s0, s1]
           refine AnyL.ready (rs := [17]) (by kernel_rfl) (by simp) ?_
           refine ReadyL.cons (o := _) (by simp only [List.getElem?_toArray, List.getElem?_cons_zero, List.getElem?_cons_succ]; rfl) (fun K hK => ?_) ReadyL.nil
           go_simp
           refine hK.out _ _ ?_ (fun hHeld => ?_)
           · (try dsimp only)
             with_reducible first | exact KS.out _ HKT.out x5 | exact KS.out _ HK1.out x51 | exact KS.out _ (KA.out _ _ HK1.out) x52 | exact KS.out _ (KA.out _ _ (KA.out _ _ HK1.out)) x53 | exact KS.out _ HK3.out x59 | fail
           clear hK K
           try simp only [Act.put, sA, s0, s1]
           refine tlA 18 ?_
           refine AnyL.ready (rs := [19]) (by kernel_rfl) (by simp) ?_
           refine ReadyL.last (o := _) (by simp only [List.getElem?_toArray, List.getElem?_cons_zero, List.getElem?_cons_succ]; rfl) (fun K hK => ?_)
           go_simp
           refine hK.out _ _ ?_
           clear hK K
           refine AnyL.done (by kernel_rfl) ?_ _
           try simp only [Act.put, sA, s0, s1]
           go_wp2_with fail
           go_roundw
           case rel => first | exact FS.out | ((repeat apply Exists.intro); exact ⟨FS.out, rfl⟩)
           case measure => simp [intOf]; omega
     · obtain rfl : k = l.length := by omega
       have FIN := Li (HAT.out.fin (n := 1 + (ctE f + ctEs l)) (ns := nmE f ++ nmEs l) rfl (by have := HMM.out; rw [List.take_of_length_le (Nat.le_refl _)] at this; omega) rfl)
       clear HAT HMM
       go_wp2_with fail
       go_ret
       exact FIN.out
 · obtain rfl : sc = 1 := by omega
   have hl0 : l.length = 0 := by have := HC3.out; omega
   go_wp2_with fail
   go_loopw [26] (CaRel H bm bi bf q w1.heap.size pb w.heap.size ln (.iface Tx (.pointer (some ⟨bx, 0, none⟩))) cx [.int .i64 14, .int .i64 op, .string tx, .int .i64 v.kd, .bool v.nb, .slice ma v.ms.length mc, .int .u64 v.ub, .string v.tx, .slice ka v.kn kc, .slice (some ⟨rb, ro, none⟩) (l.length + 1) 1, .slice pa 0 pc] w f l) (fun i _ => l.length - (intOf i).toNat)
   case atStart => exact STP.out
   case round =>
     obtain ⟨k, m, v0, vs, cn, bi', bf', hk, rfl, HMM, HAT⟩ := hrel
     clear STP
     by_cases hlt : k < l.length
     · omega
     · obtain rfl : k = l.length := by omega
       have FIN := Li (HAT.out.fin (n := 1 + (ctE f + ctEs l)) (ns := nmE f ++ nmEs l) rfl (by have := HMM.out; rw [List.take_of_length_le (Nat.le_refl _)] at this; omega) rfl)
       clear HAT HMM
       go_wp2_with fail
       go_ret
       exact FIN.out
end Go.Proofs.YtoojgjhfmmohbaaGreat
