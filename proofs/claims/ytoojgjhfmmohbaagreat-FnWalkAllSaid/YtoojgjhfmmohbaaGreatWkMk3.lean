/- What the maker's methods answer; loops that make rows of nodes; maker.exprs. -/
import Derived.Test.YtoojgjhfmmohbaaGreatWkMk2
namespace Go.Proofs.YtoojgjhfmmohbaaGreat
open Go.RowKit Dig
set_option linter.unusedVariables false
set_option linter.unusedSimpArgs false
set_option maxRecDepth 100000
theorem MK.same {w w' : World} {H bm bi bf q : Nat} (h : MK w H bm bi bf q) (h1 : w'.heap[bm]? = w.heap[bm]?) (h2 : w'.heap[bi]? = w.heap[bi]?) (h3 : w'.heap[bf]? = w.heap[bf]?) : MK w' H bm bi bf q := by
 obtain ⟨nm, cnt, line, vi, vf, ni, nf, xi, xf, hk, hi, hf, hq, e1, e2, hH⟩ := h
 have keep : ∀ {e : TypeId} {v : Value} {n b : Nat} {xs : List Value}, w.ownsRow H e 1 v n xs → (v.ownBlock = some b ∨ (v.ownBlock = none ∧ b = bm)) → w'.heap[b]? = w.heap[b]? → w'.ownsRow H e 1 v n xs := by
   intro e v n b xs ho hv hb
   rcases ho.2 with h0 | ⟨g, cap, cur, rfl, hb2, hg, rest⟩
   · exact ⟨ho.1, .inl h0⟩
   · rcases hv with hv | ⟨hv, _⟩
     · simp only [Value.ownBlock, Option.some.injEq] at hv
       subst hv
       exact ⟨ho.1, .inr ⟨g, cap, cur, rfl, hb2, hb.trans hg, rest⟩⟩
     · simp [Value.ownBlock] at hv
 exact ⟨nm, cnt, line, vi, vf, ni, nf, xi, xf, h1.trans hk, keep hi e1 h2, keep hf e2 h3, hq, e1, e2, hH⟩
def MPost (H bm bi bf q n : Nat) (ns : List ByteArray) (w : World) (e : Ending) (w' : World) : Prop :=
 ∃ T b c bi' bf', e = .returned (.iface T (.pointer (some ⟨b, 0, none⟩))) ∧ Stp w.heap.size w w' bm bi bf bi' bf' ∧ MK w' H bm bi' bf' (q + n) ∧ Nd (Gx w' w.heap.size [bi', bf']) (.iface T (.pointer (some ⟨b, 0, none⟩))) ns c ∧ c + 1 ≤ 3 * n
def MLPost (H bm bi bf q n len : Nat) (ns : List ByteArray) (w : World) (e : Ending) (w' : World) : Prop :=
 ∃ a cc vs c bi' bf', e = .returned (.slice a len cc) ∧ vs.length = len ∧ Stp w.heap.size w w' bm bi bf bi' bf' ∧ MK w' H bm bi' bf' (q + n) ∧ RowG (Gx w' w.heap.size [bi', bf']) (.slice a len cc) vs ∧ Nds (Gx w' w.heap.size [bi', bf']) vs ns c ∧ c ≤ 3 * n
def MEx (R : Nat → Nat → Option Value) (B H bm : Nat) (t : Tr) : Prop := ∀ (cs : List Value) (w : World) (bi bf q : Nat), ExV R t cs → Old R B w → B ≤ H → MK w H bm bi bf q → q + ctE t ≤ 8192 → OkE t →
 Calls Tryz.prog 45 #[.pointer (some ⟨bm, 0, none⟩), .agg cs.toArray] w (MPost H bm bi bf q (ctE t) (nmE t) w)
def MLRel (T : TypeId) (f : List Tr → List ByteArray) (C : List Tr → Nat) (H bm bi bf q : Nat) (w : World) (l : List Tr) (v i : Value) (wr : World) : Prop :=
 ∃ (k : Nat) (vs : List Value) (c bi' bf' : Nat), k ≤ l.length ∧ i = .int .i64 (k : Int) ∧ Hid (wr.ownsRow w.heap.size T 1 v k vs) ∧ Hid (Stp w.heap.size w wr bm bi bf bi' bf') ∧ Hid (MK wr H bm bi' bf' (q + C (l.take k))) ∧
   Hid (Nds (Gx wr w.heap.size (bi' :: bf' :: v.ownBlock.toList)) vs (f (l.take k)) c) ∧ Hid (c ≤ 3 * C (l.take k)) ∧ Hid (∀ r, v.ownBlock = some r → r ≠ bm ∧ r ≠ bi' ∧ r ≠ bf')
theorem MLRel.start (T : TypeId) {f : List Tr → List ByteArray} {C : List Tr → Nat} {H bm bi bf q : Nat} {w : World} (l : List Tr) (h : MK w H bm bi bf q) (hf : f [] = []) : MLRel T f C H bm bi bf q w l (.slice none 0 0) (.int .i64 0) w :=
 ⟨0, [], 0, bi, bf, Nat.zero_le _, rfl, Li (World.ownsRow_nil w _ _ _), Li (Stp.refl _ _ _ _ _), Li (h.mono (by omega)), Li (by simp only [List.take_zero, hf]; exact .nil), Li (by omega), Li (by simp [Value.ownBlock])⟩
theorem MLRel.step {T : TypeId} {f : List Tr → List ByteArray} {C : List Tr → Nat} {H bm bi bf q k c bi' bf' bi2 bf2 n c1 : Nat} {w wr W0 w1 w2 w3 : World} {l : List Tr} {t : Tr} {v v1 v3 : Value} {vs : List Value} {ns : List ByteArray} (ht : l[k]? = some t) (hbm : bm < w.heap.size)
   (ho : wr.ownsRow w.heap.size T 1 v k vs) (hs : Stp w.heap.size w wr bm bi bf bi' bf') (hm : MK wr H bm bi' bf' (q + C (l.take k))) (hn : Nds (Gx wr w.heap.size (bi' :: bf' :: v.ownBlock.toList)) vs (f (l.take k)) c) (hc : c ≤ 3 * C (l.take k)) (hr : ∀ r, v.ownBlock = some r → r ≠ bm ∧ r ≠ bi' ∧ r ≠ bf')
   (hb0 : Below wr.heap.size wr W0) (hs1 : Stp W0.heap.size W0 w1 bm bi' bf' bi2 bf2) (hm1 : MK w1 H bm bi2 bf2 (q + C (l.take k) + n)) (hn1 : Nd (Gx w1 W0.heap.size [bi2, bf2]) v1 ns c1) (hc1 : c1 ≤ 3 * n) (hb2 : Below w1.heap.size w1 w2)
   (hg : w2.grownBy w3 v.ownBlock) (ho3 : w3.ownsRow w.heap.size T 1 v3 (k + 1) (vs ++ [v1])) (hv3 : v3.ownBlock = v.ownBlock ∨ v3.ownBlock = some w2.heap.size) (hf : f (l.take k ++ [t]) = f (l.take k) ++ ns) (hC : C (l.take k ++ [t]) = C (l.take k) + n) :
   MLRel T f C H bm bi bf q w l v3 (.int .i64 ((k : Int) + 1)) w3 := by
 have z0 := hb0.size
 have z1 := hs1.size
 have z2 := hb2.size
 have zr := hs.size
 obtain ⟨m1, m2, m3, m4, m5, m6⟩ := hm1.lts
 have hro : ∀ r, v.ownBlock = some r → w.heap.size ≤ r ∧ r < wr.heap.size := fun r h => ho.lt r h
 have hgb : ∀ b, b < w2.heap.size → v.ownBlock ≠ some b → w3.heap[b]? = w2.heap[b]? := fun b hb hne => hg.block b hb (fun e => hne e.symm)
 have hnotr : ∀ b, (b = bm ∨ b = bi2 ∨ b = bf2) → v.ownBlock ≠ some b := by
   intro b hb he
   obtain ⟨r1, r2, r3⟩ := hr b he
   have r4 := (hro b he).2
   rcases hb with e | e | e
   · exact r1 e
   · rcases hs1.hi with e2 | e2
     · exact r2 (by omega)
     · omega
   · rcases hs1.hf with e2 | e2
     · exact r3 (by omega)
     · omega
 refine ⟨k + 1, vs ++ [v1], c + c1, bi2, bf2, (List.getElem?_eq_some_iff.1 ht).1, by simp, Li ho3, Li ?_, Li ?_, Li ?_, Li ?_, Li ?_⟩
 · refine ((hs.trans (Stp.of_below (hb0.mono zr))).trans (hs1.mono (by omega))).trans ((Stp.of_below (hb2.mono (by omega))).trans ⟨hg.os, hg.tape, hg.output, hg.size, fun b hb _ _ _ => hgb b (by omega) (fun e => by have := (hro b e).1; omega), .inl rfl, .inl rfl⟩)
 · rw [take_succ_of ht, hC, ← Nat.add_assoc]
   refine (hm1.below hb2).same ?_ ?_ ?_
   · exact hgb _ (by omega) (hnotr _ (.inl rfl))
   · exact hgb _ (by omega) (hnotr _ (.inr (.inl rfl)))
   · exact hgb _ (by omega) (hnotr _ (.inr (.inr rfl)))
 · rw [take_succ_of ht, hf]
   have hex : ∀ b, b < w2.heap.size → b ∉ v.ownBlock.toList → b ∉ v3.ownBlock.toList := by
     intro b hb hne
     rcases hv3 with e | e
     · rw [e]; exact hne
     · rw [e]; simp; omega
   refine Nds.append (hn.mono (Gx.le (Nat.le_refl _) fun b h1 h2 h3 => ?_)) (Nds.one (hn1.mono (Gx.le (by omega) fun b h1 h2 h3 => ?_)))
   · simp only [List.mem_cons, not_or] at h3 ⊢
     have hv : v.ownBlock ≠ some b := fun e => h3.2.2 (by rw [e]; simp)
     refine ⟨⟨by rcases hs1.hi with e | e <;> omega, by rcases hs1.hf with e | e <;> omega, hex b (by omega) h3.2.2⟩, ?_⟩
     rw [hgb b (by omega) hv, hb2.block b (by omega), hs1.block b (by omega) (by omega) h3.1 h3.2.1, hb0.block b h2]
   · simp only [List.mem_cons, List.mem_nil_iff, or_false, not_or] at h3 ⊢
     have hv : v.ownBlock ≠ some b := fun e => by have := (hro b e).2; omega
     refine ⟨⟨h3.1, h3.2, hex b (by omega) (fun h => by rw [Option.mem_toList] at h; exact hv h)⟩, ?_⟩
     rw [hgb b (by omega) hv, hb2.block b h2]
 · rw [take_succ_of ht, hC]; omega
 · intro r hr3
   rcases hv3 with e | e
   · rw [e] at hr3
     have h1 := hnotr
     exact ⟨fun e2 => hnotr bm (.inl rfl) (by rw [hr3, e2]), fun e2 => hnotr bi2 (.inr (.inl rfl)) (by rw [hr3, e2]), fun e2 => hnotr bf2 (.inr (.inr rfl)) (by rw [hr3, e2])⟩
   · rw [e] at hr3
     injection hr3 with hr3
     omega
theorem MLRel.fin {T : TypeId} {f : List Tr → List ByteArray} {C : List Tr → Nat} {H bm bi bf q c bi' bf' : Nat} {w wr : World} {l : List Tr} {v : Value} {vs : List Value}
   (ho : wr.ownsRow w.heap.size T 1 v l.length vs) (hs : Stp w.heap.size w wr bm bi bf bi' bf') (hm : MK wr H bm bi' bf' (q + C (l.take l.length))) (hn : Nds (Gx wr w.heap.size (bi' :: bf' :: v.ownBlock.toList)) vs (f (l.take l.length)) c) (hc : c ≤ 3 * C (l.take l.length)) (hr : ∀ r, v.ownBlock = some r → r ≠ bm ∧ r ≠ bi' ∧ r ≠ bf') :
   MLPost H bm bi bf q (C l) l.length (f l) w (.returned v) wr := by
 rw [List.take_of_length_le (Nat.le_refl _)] at hm hn hc
 obtain ⟨a, cc, rfl⟩ := own_form ho
 have hvl : vs.length = l.length := by simpa using ho.1
 refine ⟨a, cc, vs, c, bi', bf', rfl, hvl, hs, hm, ?_, hn.mono (Gx.le (Nat.le_refl _) fun b _ _ h3 => ?_), hc⟩
 · rw [← hvl] at ho hr ⊢
   exact RowG.of_rr ho (fun k hk => ⟨(ho.lt k hk).1, by have := hr k hk; simp; exact ⟨this.2.1, this.2.2⟩⟩)
 · simp only [List.mem_cons, List.mem_nil_iff, or_false, not_or] at h3 ⊢
   exact ⟨⟨h3.1, h3.2.1⟩, trivial⟩
theorem infoEx : (Tryz.prog.info? 93).map (fun i => (i.zero, i.size, i.bytes)) = some (some .nilIface, 1, 16) := by kernel_rfl
theorem infoSt : (Tryz.prog.info? 172).map (fun i => (i.zero, i.size, i.bytes)) = some (some .nilIface, 1, 16) := by kernel_rfl
theorem len_takeC {C : List Tr → Nat} (hC : ∀ x y, C (x ++ y) = C x + C y) {l : List Tr} {k : Nat} {t : Tr} (ht : l[k]? = some t) : C (l.take k) + C [t] ≤ C l := by
 have e : l = (l.take k ++ [t]) ++ l.drop (k + 1) := by rw [← take_succ_of ht, List.take_append_drop]
 have := congrArg C e
 simp only [hC] at this
 omega
set_option maxHeartbeats 3200000 in
theorem mexprs_of {R : Nat → Nat → Option Value} {B H bm : Nat} {l : List Tr} (HE : ∀ t ∈ l, MEx R B H bm t) (hok : ∀ t ∈ l, OkE t) (a : Option Addr) (c : Nat) (w : World) (bi bf q : Nat) (hl : ExL R l (.slice a l.length c)) (ho : Old R B w) (hBH : B ≤ H) (hm : MK w H bm bi bf q) (hq : q + ctEs l ≤ 8192) (hlen : l.length ≤ 8192) :
   Calls Tryz.prog 40 #[.pointer (some ⟨bm, 0, none⟩), .slice a l.length c] w (MLPost H bm bi bf q (ctEs l) l.length (nmEs l) w) := by
 obtain ⟨iE, hiE, hzE, hsE, hbE⟩ := info_parts infoEx
 obtain ⟨a', c', e, hc, hmx, hrow⟩ := hl.form
 simp only [Value.slice.injEq, true_and] at e
 obtain ⟨rfl, rfl⟩ := e
 unfold maxLen at hmx
 obtain ⟨g1, g2, g3, g4, g5, g6⟩ := hm.lts
 have START := Li (MLRel.start 93 (C := ctEs) l hm nmEs_nil)
 have HO := Li ho; have HR := Li hrow; have HEH := Li HE; have HOK := Li hok
 clear ho hrow HE hok hl hm
 go_enter Tryz.func40, Tryz.ntmps40
 go_wp2_with fail
 go_loopw [4, 9] (MLRel 93 nmEs ctEs H bm bi bf q w l) (fun _ i _ => l.length - (intOf i).toNat)
 case atStart => exact START.out
 case round =>
   obtain ⟨k, vs, cn, bi', bf', hk, rfl, HOWN, HSTP, HMK, HNDS, HC, HRO⟩ := hrel
   clear START
   by_cases hlt : k < l.length
   · obtain ⟨t, ht⟩ : ∃ t, l[k]? = some t := ⟨_, List.getElem?_eq_getElem hlt⟩
     have hwr : Old R B wr := HO.out.below (HSTP.out.below (by omega) (by omega) (by omega) (by omega))
     obtain ⟨b, o, rfl, hx⟩ := HR.out (by intro h; rw [h] at hlt; simp at hlt)
     obtain ⟨kd, op, tx, v, nm, ca, cb, cc, cd, ma, mc, ka, kc, sa, sc, pa, pc, et, hxv, ⟨hvr, hxa, hpb, hkr, hor, htx⟩, hbB, c0, c1, c2, c3, c4, c5, c6, c7, c8, c9, c10⟩ := (hx k t ht).cells hwr
     obtain ⟨W0, hW0⟩ : ∃ W0, W0 = wr.alloc (.cells #[.int .i64 kd, .int .i64 op, .string tx, .int .i64 v.kd, .bool v.nb, .slice ma v.ms.length mc, .int .u64 v.ub, .string v.tx, .slice ka v.kn kc, .slice sa ca.length sc, .slice pa cb.length pc] 75) := ⟨_, rfl⟩
     have hb0 : Below wr.heap.size wr W0 := by rw [hW0]; exact (Below.refl _ _).alloc (Nat.le_refl _) _
     have hle := len_takeC ctEs_append ht
     simp only [ctEs_cons, ctEs_nil, Nat.add_zero] at hle
     have hO0 : Old R B W0 := hwr.below (hb0.mono (by have := HSTP.out.size; omega))
     have HCALL := Li (HEH.out t (List.mem_of_getElem? ht) _ W0 bi' bf' (q + ctEs (l.take k)) hxv hO0 hBH (HMK.out.below hb0) (by omega) (HOK.out t (List.mem_of_getElem? ht)))
     have HB0 := Li hb0
     have HT := Li ht
     have hsw : w.heap.size ≤ wr.heap.size := HSTP.out.size
     clear ht et hxv hvr hxa hpb hkr hor htx hx hwr hb0 hO0 hle
     subst hW0
     go_wp2_with fail
     refine HCALL.out.mono ?_
     rintro e w1 ⟨T1, b1, n1, bi2, bf2, rfl, hs1, hm1, hn1, hc1⟩
     have hz1 := hs1.size
     have hb2 : Below w1.heap.size w1 (w1.alloc (.cells #[.iface T1 (.pointer (some ⟨b1, 0, none⟩))] 93)) := (Below.refl _ _).alloc (Nat.le_refl _) _
     have hro : ∀ r, u4.ownBlock = some r → r < wr.heap.size ∧ r ≠ bm ∧ r ≠ bi' ∧ r ≠ bf' := fun r hr => ⟨(HOWN.out.lt r hr).2, HRO.out r hr⟩
     have OWN0 := own_below HOWN.out HB0.out
     have OWN1 := hs1.own OWN0 (fun r hr => ⟨by have := hro r hr; have := HB0.out.size; omega, (hro r hr).2⟩)
     have OWN2 := Li (own_below OWN1 hb2)
     have SL2 : Hid (Sl (w1.alloc (.cells #[.iface T1 (.pointer (some ⟨b1, 0, none⟩))] 93)) (w1.heap.size + 1) (.slice (some ⟨w1.heap.size, 0, none⟩) 1 1) [.iface T1 (.pointer (some ⟨b1, 0, none⟩))]) := Li (Sl.one _ _ _ rfl)
     have HBW : Hid (w.heap.size ≤ (w1.alloc (.cells #[.iface T1 (.pointer (some ⟨b1, 0, none⟩))] 93)).heap.size) := Li (by have := hb2.size; have := HB0.out.size; omega)
     have FIN : Hid (∀ v3 w3, w3.ownsRow w.heap.size 93 1 v3 (k + 1) (vs ++ [.iface T1 (.pointer (some ⟨b1, 0, none⟩))]) → (w1.alloc (.cells #[.iface T1 (.pointer (some ⟨b1, 0, none⟩))] 93)).grownBy w3 u4.ownBlock → (v3.ownBlock = u4.ownBlock ∨ v3.ownBlock = some (w1.alloc (.cells #[.iface T1 (.pointer (some ⟨b1, 0, none⟩))] 93)).heap.size) → MLRel 93 nmEs ctEs H bm bi bf q w l v3 (.int .i64 ((k : Int) + 1)) w3) := Li (fun v3 w3 h1 h2 h3 =>
       MLRel.step HT.out (by omega) HOWN.out HSTP.out HMK.out HNDS.out HC.out HRO.out HB0.out hs1 hm1 hn1 (by omega) hb2 h2 h1 h3 (by rw [nmEs_append]; simp) (by rw [ctEs_append]; simp))
     clear hs1 hm1 hn1 hc1 hb2 hro OWN0 OWN1 HCALL
     go_wp2_with (at_builtin; refine wpList_append_to _ rfl (.tmp 13) (.tmp 17) 106 rfl w.heap.size 93 iE _ 16 Tryz.underlying106 hiE hzE hsE hbE rfl u4 k _ rfl OWN2.out _ _ _ rfl SL2.out (by intro u hu; simp at hu; subst hu; rfl) (by unfold maxLen; simp; omega) (by simp; omega) HBW.out ?_; intro v3 w3 g1 g2 g3; have FS := Li (FIN.out v3 w3 g1 g2 g3); clear g1 g2 g3)
     go_roundw
     case rel => first | exact FS.out | ((repeat apply Exists.intro); exact ⟨FS.out, rfl⟩)
     case measure => simp [intOf]; omega
   · obtain rfl : k = l.length := by omega
     have FIN := Li (MLRel.fin HOWN.out HSTP.out HMK.out HNDS.out HC.out HRO.out)
     clear HOWN HSTP HMK HNDS HC HRO
     go_wp2_with fail
     go_ret
     exact FIN.out
end Go.Proofs.YtoojgjhfmmohbaaGreat
