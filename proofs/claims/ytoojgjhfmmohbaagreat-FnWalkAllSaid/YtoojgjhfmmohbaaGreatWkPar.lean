/- maker.params (printed by genwkpar.py). -/
import Derived.Test.YtoojgjhfmmohbaaGreatWkPl
namespace Go.Proofs.YtoojgjhfmmohbaaGreat
open Go.RowKit Dig
set_option linter.unusedVariables false
set_option linter.unusedSimpArgs false
set_option maxRecDepth 100000
theorem MK.ne {w : World} {H bm bi bf q b : Nat} {e : TypeId} {L : List Value} (h : MK w H bm bi bf q) (hk : Blk w b e L) (n1 : e ≠ 83) (n2 : e ≠ 56) (n3 : e ≠ 55) : b ≠ bm ∧ b ≠ bi ∧ b ≠ bf := by
 obtain ⟨_, _, _, vi, vf, _, _, _, _, hm, hi, hf, _, h1, h2, _⟩ := h
 have hbm : b ≠ bm := by rintro rfl; exact n1 (hk.inj hm).1
 refine ⟨hbm, ?_, ?_⟩
 · rcases h1 with h1 | ⟨_, rfl⟩
   · rintro rfl; exact own_other hi hk n2 h1
   · exact hbm
 · rcases h2 with h2 | ⟨_, rfl⟩
   · rintro rfl; exact own_other hf hk n3 h2
   · exact hbm
theorem MLRel.start' (T : TypeId) {f : List Tr → List ByteArray} {C : List Tr → Nat} {H bm bi bf q : Nat} {w wp : World} (l : List Tr) (h : MK w H bm bi bf q) (hb : Below w.heap.size w wp) (hf : f [] = []) : MLRel T f C H bm bi bf q w l (.slice none 0 0) (.int .i64 0) wp :=
 ⟨0, [], 0, bi, bf, Nat.zero_le _, rfl, Li (World.ownsRow_nil wp _ _ _), Li (Stp.of_below hb), Li ((h.below hb).mono (by omega)), Li (by simp only [List.take_zero, hf]; exact .nil), Li (by omega), Li (by simp [Value.ownBlock])⟩
def PaRel (H bm bi bf q pb : Nat) (ln : Int) (w : World) (l : List Tr) (v i : Value) (wr : World) : Prop :=
 MLRel 93 nmPs ctPs H bm bi bf q w l v i wr ∧ Hid (Blk wr pb 63 [.pointer (some ⟨bm, 0, none⟩), .int .i32 ln, .int .i32 1])
set_option maxHeartbeats 6400000 in
theorem mparams_of {R : Nat → Nat → Option Value} {B H bm : Nat} {l : List Tr} (HE : ∀ p ∈ l, ∀ t ∈ p.a, MEx R B H bm t) (hok : ∀ p ∈ l, OkP p) (a : Option Addr) (c : Nat) (w : World) (bi bf q : Nat) (hl : PaL R l (.slice a l.length c)) (ho : Old R B w) (hBH : B ≤ H) (hm : MK w H bm bi bf q) (hq : q + ctPs l ≤ 8192) (hlen : l.length ≤ 8192) :
   Calls Tryz.prog 43 #[.pointer (some ⟨bm, 0, none⟩), .slice a l.length c] w (MLPost H bm bi bf q (ctPs l) l.length (nmPs l) w) := by
 obtain ⟨iE, hiE, hzE, hsE, hbE⟩ := info_parts infoEx
 obtain ⟨a', c', e, hc, hmx, hrow⟩ := hl.form
 simp only [Value.slice.injEq, true_and] at e
 obtain ⟨rfl, rfl⟩ := e
 unfold maxLen at hmx
 obtain ⟨g1, g2, g3, g4, g5, g6⟩ := hm.lts
 have HPOS := Li (pos_any H bm bi bf q w hm)
 have HO := Li ho; have HR := Li hrow; have HEH := Li HE; have HOK := Li hok; have HM := Li hm
 clear ho hrow HE hok hl hm
 go_enter Tryz.func43, Tryz.ntmps43
 go_wp2_with fail
 refine HPOS.out.mono ?_
 rintro e wq ⟨ln, rfl, hbq⟩
 obtain ⟨pb, hpb⟩ : ∃ pb, wq.heap.size = pb := ⟨_, rfl⟩
 have hpw : w.heap.size ≤ pb := by have := hbq.size; omega
 have START : Hid (PaRel H bm bi bf q pb ln w l (.slice none 0 0) (.int .i64 0) (wq.alloc (.cells #[.pointer (some ⟨bm, 0, none⟩), .int .i32 ln, .int .i32 1] 63))) := Li ⟨MLRel.start' 93 (C := ctPs) l HM.out (hbq.alloc (by omega) _) nmPs_nil, Li (by rw [← hpb]; exact Blk.new wq _ _)⟩
 clear hbq
 go_wp2_with fail
 go_loopw [4, 13] (PaRel H bm bi bf q pb ln w l) (fun _ i _ => l.length - (intOf i).toNat)
 case atStart => exact START.out
 case round =>
   obtain ⟨⟨k, vs, cn, bi', bf', hk, rfl, HOWN, HSTP, HMK, HNDS, HC, HRO⟩, HPB⟩ := hrel
   clear START hpb
   by_cases hlt : k < l.length
   · obtain ⟨t, ht⟩ : ∃ t, l[k]? = some t := ⟨_, List.getElem?_eq_getElem hlt⟩
     have hwr : Old R B wr := HO.out.below (HSTP.out.below (by omega) (by omega) (by omega) (by omega))
     obtain ⟨b, o, rfl, hx⟩ := HR.out (by intro h; rw [h] at hlt; simp at hlt)
     obtain ⟨kd, op, tx, v, nm, ca, cb, cc, cd, sa, sc, et, hxv, ⟨hxa, hkr, htx⟩, hbB, c0, c1, c2⟩ := (hx k t ht).cells hwr
     have hle := len_takeC ctPs_append ht
     simp only [ctPs_cons, ctPs_nil, Nat.add_zero] at hle
     rw [et, ctP_mk] at hle
     obtain ⟨W0', hW0⟩ : ∃ W0', W0' = wr.alloc (.cells #[.int .i64 kd, .string tx, .slice sa ca.length sc] 68) := ⟨_, rfl⟩
     have hb0 : Below wr.heap.size wr W0' := by rw [hW0]; exact (Below.refl _ _).alloc (Nat.le_refl _) _
     have hp0 := HPB.out.below hb0 HPB.out.lt
     have HPN := Li ((HMK.out.below hb0).ne hp0 (by decide) (by decide) (by decide))
     have HP0 := Li hp0
     have E0 : Blk W0' wr.heap.size 68 [.int .i64 kd, .string tx, .slice sa ca.length sc] := by rw [hW0]; exact Blk.new wr _ _
     have HE0 := Li E0
     have HID := Li (ident_any H bm bi' bf' (q + ctPs (l.take k)) tx W0' (HMK.out.below hb0) (by omega))
     have hokt := HOK.out t (List.mem_of_getElem? ht)
     rw [et] at hokt
     have HOKT := Li hokt
     have HO0 := Li (hwr.below (hb0.mono (by have := HSTP.out.size; omega)))
     have HB0 := Li hb0
     have HT := Li ht
     have HET := Li et
     have HXA := Li hxa
     have HKS : Hid (∀ s ∈ ca, MEx R B H bm s) := Li (fun s hs => HEH.out t (List.mem_of_getElem? ht) s (by rw [et]; exact hs))
     have hsw : w.heap.size ≤ wr.heap.size := HSTP.out.size
     clear ht et hxv hxa hkr htx hx hwr hb0 hp0 E0 hokt
     subst hW0
     cases HOKT.out with
     | bare _ _ _ _ _ _ _ _ hkk =>
       simp only [ctEs_nil, Nat.add_zero, List.length_nil] at *
       rcases hkk with rfl | rfl | rfl | rfl
       · go_wp2_with fail
         refine HID.out.mono ?_
         rintro e w1 ⟨ib, bi2, rfl, hs1, hm1, hn1, _, _⟩
         have OWN1 := hs1.own (own_below HOWN.out HB0.out) (fun r hr => ⟨by have := (HOWN.out.lt r hr).2; have := HB0.out.size; omega, HRO.out r hr⟩)
         obtain ⟨hp1, _, _⟩ := hs1.blk HP0.out HP0.out.lt HPN.out.1 HPN.out.2.1 HPN.out.2.2
         have hb2 : Below w1.heap.size w1 (w1.alloc (.cells #[(.iface 56 (.pointer (some ⟨ib, 0, none⟩)))] 93)) := (Below.refl _ _).alloc (Nat.le_refl _) _
         have OWN2 := Li (own_below OWN1 hb2)
         have SL2 : Hid (Sl (w1.alloc (.cells #[(.iface 56 (.pointer (some ⟨ib, 0, none⟩)))] 93)) (w1.heap.size + 1) (.slice (some ⟨w1.heap.size, 0, none⟩) 1 1) [(.iface 56 (.pointer (some ⟨ib, 0, none⟩)))]) := Li (Sl.one _ _ _ (by rfl))
         have HBW : Hid (w.heap.size ≤ (w1.alloc (.cells #[(.iface 56 (.pointer (some ⟨ib, 0, none⟩)))] 93)).heap.size) := Li (by have := hb2.size; have := HB0.out.size; have := hs1.size; omega)
         have FIN : Hid (∀ v3 w3, w3.ownsRow w.heap.size 93 1 v3 (k + 1) (vs ++ [(.iface 56 (.pointer (some ⟨ib, 0, none⟩)))]) → (w1.alloc (.cells #[(.iface 56 (.pointer (some ⟨ib, 0, none⟩)))] 93)).grownBy w3 u4.ownBlock → (v3.ownBlock = u4.ownBlock ∨ v3.ownBlock = some (w1.alloc (.cells #[(.iface 56 (.pointer (some ⟨ib, 0, none⟩)))] 93)).heap.size) → PaRel H bm bi bf q pb ln w l v3 (.int .i64 ((k : Int) + 1)) w3) := Li (fun v3 w3 h1 h2 h3 =>
           ⟨MLRel.step HT.out (by omega) HOWN.out HSTP.out HMK.out HNDS.out HC.out HRO.out HB0.out hs1 hm1 hn1 (by omega) hb2 h2 h1 h3 (by rw [nmPs_append, HET.out]; simp [nmP_mk]) (by rw [ctPs_append, HET.out]; simp [ctP_mk]), Li ((hp1.below hb2 hp1.lt).far_own OWN2.out (by decide) h2)⟩)
         clear hs1 hm1 hn1 hb2 OWN1 hp1
         go_wp2_with (at_builtin; refine wpList_append_to _ rfl (.tmp 23) (.tmp 29) 106 rfl w.heap.size 93 iE _ 16 Tryz.underlying106 hiE hzE hsE hbE rfl u4 k _ rfl OWN2.out _ _ _ rfl SL2.out (by intro u hu; simp at hu; subst hu; rfl) (by unfold maxLen; simp; omega) (by simp; omega) HBW.out ?_; intro v3 w3 g1 g2 g3; have FS := Li (FIN.out v3 w3 g1 g2 g3); clear g1 g2 g3)
         go_roundw
         case rel => first | exact FS.out | ((repeat apply Exists.intro); exact ⟨FS.out, rfl⟩)
         case measure => simp [intOf]; omega
       · have HP0 : Hid (Blk (wr.alloc (.cells #[.int .i64 2, .string tx, .slice sa 0 sc] 68)).drew pb 63 [.pointer (some ⟨bm, 0, none⟩), .int .i32 ln, .int .i32 1]) := HP0
         have HE0 : Hid (Blk (wr.alloc (.cells #[.int .i64 2, .string tx, .slice sa 0 sc] 68)).drew wr.heap.size 68 [.int .i64 2, .string tx, .slice sa 0 sc]) := HE0
         have HB0 : Hid (Below wr.heap.size wr (wr.alloc (.cells #[.int .i64 2, .string tx, .slice sa 0 sc] 68)).drew) := Li HB0.out.drew
         have HIDD : Hid (Calls Tryz.prog 42 #[.pointer (some ⟨bm, 0, none⟩), .string tx] (wr.alloc (.cells #[.int .i64 2, .string tx, .slice sa 0 sc] 68)).drew (IdPost H bm bi' bf' (q + ctPs (l.take k)) tx (wr.alloc (.cells #[.int .i64 2, .string tx, .slice sa 0 sc] 68)).drew)) := Li (ident_any H bm bi' bf' (q + ctPs (l.take k)) tx (wr.alloc (.cells #[.int .i64 2, .string tx, .slice sa 0 sc] 68)).drew (HMK.out.below HB0.out) (by omega))
         have KS : Hid (∀ W, Blk W pb 63 [.pointer (some ⟨bm, 0, none⟩), .int .i32 ln, .int .i32 1] → Blk W wr.heap.size 68 [.int .i64 2, .string tx, .slice sa 0 sc] → W.cell? ⟨pb, 0, none⟩ = some (.pointer (some ⟨bm, 0, none⟩)) ∧ W.cell? ⟨pb, 1, none⟩ = some (.int .i32 ln) ∧ W.cell? ⟨pb, 2, none⟩ = some (.int .i32 1) ∧ W.cell? ⟨wr.heap.size, 1, none⟩ = some (.string tx)) := Li (fun W h1 h2 => ⟨h1.cell 0 (by simp), h1.cell 1 (by simp), h1.cell 2 (by simp), h2.cell 1 (by simp)⟩)
         have EN := Li ((HMK.out.below HB0.out).ne HE0.out (by decide) (by decide) (by decide))
         have STEPD : Hid (∀ (w1 : World) (ib bi2 : Nat), Stp (wr.alloc (.cells #[.int .i64 2, .string tx, .slice sa 0 sc] 68)).drew.heap.size (wr.alloc (.cells #[.int .i64 2, .string tx, .slice sa 0 sc] 68)).drew w1 bm bi' bf' bi2 bf' → MK w1 H bm bi2 bf' (q + ctPs (l.take k) + 1) → Nd (Gx w1 (wr.alloc (.cells #[.int .i64 2, .string tx, .slice sa 0 sc] 68)).drew.heap.size [bi2, bf']) (.iface 56 (.pointer (some ⟨ib, 0, none⟩))) [tx] 1 →
             (w1.alloc (.cells #[.pointer none, .pointer (some ⟨bm, 0, none⟩), .int .i32 ln, .int .i32 1, .int .i8 12, .iface 56 (.pointer (some ⟨ib, 0, none⟩))] 157)).ownsRow w.heap.size 93 1 u4 k vs ∧ Blk w1 pb 63 [.pointer (some ⟨bm, 0, none⟩), .int .i32 ln, .int .i32 1] ∧ Blk w1 wr.heap.size 68 [.int .i64 2, .string tx, .slice sa 0 sc] ∧ w.heap.size ≤ w1.heap.size ∧ ∀ v3 w3, w3.ownsRow w.heap.size 93 1 v3 (k + 1) (vs ++ [(.iface 155 (.pointer (some ⟨w1.heap.size, 0, none⟩)))]) → ((w1.alloc (.cells #[.pointer none, .pointer (some ⟨bm, 0, none⟩), .int .i32 ln, .int .i32 1, .int .i8 12, .iface 56 (.pointer (some ⟨ib, 0, none⟩))] 157)).alloc (.cells #[(.iface 155 (.pointer (some ⟨w1.heap.size, 0, none⟩)))] 93)).grownBy w3 u4.ownBlock → (v3.ownBlock = u4.ownBlock ∨ v3.ownBlock = some ((w1.alloc (.cells #[.pointer none, .pointer (some ⟨bm, 0, none⟩), .int .i32 ln, .int .i32 1, .int .i8 12, .iface 56 (.pointer (some ⟨ib, 0, none⟩))] 157)).alloc (.cells #[(.iface 155 (.pointer (some ⟨w1.heap.size, 0, none⟩)))] 93)).heap.size) → PaRel H bm bi bf q pb ln w l v3 (.int .i64 ((k : Int) + 1)) w3 ∧ Blk w3 pb 63 [.pointer (some ⟨bm, 0, none⟩), .int .i32 ln, .int .i32 1] ∧ Blk w3 wr.heap.size 68 [.int .i64 2, .string tx, .slice sa 0 sc]) := Li (fun w1 ib bi2 hs1 hm1 hn1 => by
           have OWN1 := hs1.own (own_below HOWN.out HB0.out) (fun r hr => ⟨by have := (HOWN.out.lt r hr).2; have := HB0.out.size; omega, HRO.out r hr⟩)
           obtain ⟨hp1, _, _⟩ := hs1.blk HP0.out HP0.out.lt HPN.out.1 HPN.out.2.1 HPN.out.2.2
           obtain ⟨he1, _, _⟩ := hs1.blk HE0.out HE0.out.lt EN.out.1 EN.out.2.1 EN.out.2.2
           have hsz := hs1.size
           have hsz0 := HB0.out.size
           have hx : Blk (w1.alloc (.cells #[.pointer none, .pointer (some ⟨bm, 0, none⟩), .int .i32 ln, .int .i32 1, .int .i8 12, .iface 56 (.pointer (some ⟨ib, 0, none⟩))] 157)) w1.heap.size 157 [.pointer none, .pointer (some ⟨bm, 0, none⟩), .int .i32 ln, .int .i32 1, .int .i8 12, .iface 56 (.pointer (some ⟨ib, 0, none⟩))] := Blk.new w1 _ _
           have hbu : Below w1.heap.size w1 (w1.alloc (.cells #[.pointer none, .pointer (some ⟨bm, 0, none⟩), .int .i32 ln, .int .i32 1, .int .i8 12, .iface 56 (.pointer (some ⟨ib, 0, none⟩))] 157)) := (Below.refl _ _).alloc (Nat.le_refl _) _
           have hs2 := hs1.trans (Stp.of_below (hbu.mono hsz))
           have hm2 := hm1.below hbu
           obtain ⟨_, _, _, _, l5, l6⟩ := hm1.lts
           have hn2 : Nd (Gx (w1.alloc (.cells #[.pointer none, .pointer (some ⟨bm, 0, none⟩), .int .i32 ln, .int .i32 1, .int .i8 12, .iface 56 (.pointer (some ⟨ib, 0, none⟩))] 157)) (wr.alloc (.cells #[.int .i64 2, .string tx, .slice sa 0 sc] 68)).drew.heap.size [bi2, bf']) (.iface 155 (.pointer (some ⟨w1.heap.size, 0, none⟩))) [tx] 2 :=
             .node _ 157 [(5, .o)] (by simp [tbl]) _ _ (Gx.of hx hsz (by simp; omega)) _ (.some 5 _ _ _ rfl .nil) [tx] 1 (Nds.one (hn1.mono (Gx.below hbu)))
           have hb2 : Below (w1.alloc (.cells #[.pointer none, .pointer (some ⟨bm, 0, none⟩), .int .i32 ln, .int .i32 1, .int .i8 12, .iface 56 (.pointer (some ⟨ib, 0, none⟩))] 157)).heap.size (w1.alloc (.cells #[.pointer none, .pointer (some ⟨bm, 0, none⟩), .int .i32 ln, .int .i32 1, .int .i8 12, .iface 56 (.pointer (some ⟨ib, 0, none⟩))] 157)) ((w1.alloc (.cells #[.pointer none, .pointer (some ⟨bm, 0, none⟩), .int .i32 ln, .int .i32 1, .int .i8 12, .iface 56 (.pointer (some ⟨ib, 0, none⟩))] 157)).alloc (.cells #[(.iface 155 (.pointer (some ⟨w1.heap.size, 0, none⟩)))] 93)) := (Below.refl _ _).alloc (Nat.le_refl _) _
           have OWN2 := own_below OWN1 hbu
           have OWN3 := own_below OWN2 hb2
           refine ⟨OWN2, hp1, he1, by omega, fun v3 w3 h1 h2 h3 => ?_⟩
           have hp3 := (((hp1.alloc (.cells #[.pointer none, .pointer (some ⟨bm, 0, none⟩), .int .i32 ln, .int .i32 1, .int .i8 12, .iface 56 (.pointer (some ⟨ib, 0, none⟩))] 157)).alloc (.cells #[(.iface 155 (.pointer (some ⟨w1.heap.size, 0, none⟩)))] 93)).far_own OWN3 (by decide) h2)
           have he3 := (((he1.alloc (.cells #[.pointer none, .pointer (some ⟨bm, 0, none⟩), .int .i32 ln, .int .i32 1, .int .i8 12, .iface 56 (.pointer (some ⟨ib, 0, none⟩))] 157)).alloc (.cells #[(.iface 155 (.pointer (some ⟨w1.heap.size, 0, none⟩)))] 93)).far_own OWN3 (by decide) h2)
           exact ⟨⟨MLRel.step HT.out (by omega) HOWN.out HSTP.out HMK.out HNDS.out HC.out HRO.out HB0.out hs2 hm2 hn2 (by omega) hb2 h2 h1 h3 (by rw [nmPs_append, HET.out]; simp [nmP_mk]) (by rw [ctPs_append, HET.out]; simp [ctP_mk]), Li hp3⟩, hp3, he3⟩)
         go_upto_region 15 with fail
         go_region_held3 (fun W => W.cell? ⟨pb, 0, none⟩ = some (.pointer (some ⟨bm, 0, none⟩)) ∧ W.cell? ⟨pb, 1, none⟩ = some (.int .i32 ln) ∧ W.cell? ⟨pb, 2, none⟩ = some (.int .i32 1) ∧ W.cell? ⟨wr.heap.size, 1, none⟩ = some (.string tx)) (with_reducible first | exact KS.out _ HP0.out HE0.out | exact KS.out _ HP1.out HE1.out | exact KS.out _ (HP1.out.alloc _) (HE1.out.alloc _) | exact KS.out _ ((HP1.out.alloc _).alloc _) ((HE1.out.alloc _).alloc _) | exact KS.out _ HP3.out HE3.out)
           ((first
             | (go_at_call 42; (with_reducible refine HIDD.out.mono ?_); rintro e w1 ⟨ib, bi2, rfl, hs1, hm1, hn1, _, _⟩; obtain ⟨ow2, hp1, he1, hw1, stp⟩ := STEPD.out w1 ib bi2 hs1 hm1 hn1; have OW2 := Li (ow2.alloc (.cells #[(.iface 155 (.pointer (some ⟨w1.heap.size, 0, none⟩)))] 93)); have HP1 := Li hp1; have HE1 := Li he1; have STP := Li stp; have HW1 := Li hw1; clear hs1 hm1 hn1 ow2 hp1 he1 stp hw1)
             | (refine step_append_to _ rfl (.tmp 63) (.tmp 73) 106 rfl w.heap.size 93 iE _ 16 Tryz.underlying106 hiE hzE hsE hbE rfl u4 k _ rfl OW2.out _ _ _ rfl (Sl.one _ _ _ (by simp)) (by intro u hu; simp at hu; subst hu; rfl) (by unfold maxLen; simp; omega) (by simp; omega) (by have := HW1.out; simp; omega) ?_; intro v3 w3 g1 g2 g3; obtain ⟨fs, hp3, he3⟩ := STP.out v3 w3 g1 g2 g3; have FS := Li fs; have HP3 := Li hp3; have HE3 := Li he3; clear g1 g2 g3 fs hp3 he3)
             | fail))
         go_wp2_with fail
         go_roundw
         case rel => first | exact FS.out | ((repeat apply Exists.intro); exact ⟨FS.out, rfl⟩)
         case measure => simp [intOf]; omega
       · have p0 := HP0.out.cell 0 (by simp)
         have p1 := HP0.out.cell 1 (by simp)
         have p2 := HP0.out.cell 2 (by simp)
         have hpl := HP0.out.lt
         have hs1 : Stp (wr.alloc (.cells #[.int .i64 3, .string tx, .slice sa 0 sc] 68)).heap.size (wr.alloc (.cells #[.int .i64 3, .string tx, .slice sa 0 sc] 68)) ((wr.alloc (.cells #[.int .i64 3, .string tx, .slice sa 0 sc] 68)).alloc (.cells #[.pointer none, .pointer (some ⟨bm, 0, none⟩), .int .i32 ln, .int .i32 1, .int .i8 12, .nilIface] 157)) bm bi' bf' bi' bf' := Stp.of_below ((Below.refl _ _).alloc (Nat.le_refl _) _)
         have hm1 : MK ((wr.alloc (.cells #[.int .i64 3, .string tx, .slice sa 0 sc] 68)).alloc (.cells #[.pointer none, .pointer (some ⟨bm, 0, none⟩), .int .i32 ln, .int .i32 1, .int .i8 12, .nilIface] 157)) H bm bi' bf' (q + ctPs (l.take k) + 1) := ((HMK.out.below HB0.out).alloc _).mono (by omega)
         have hn1 : Nd (Gx ((wr.alloc (.cells #[.int .i64 3, .string tx, .slice sa 0 sc] 68)).alloc (.cells #[.pointer none, .pointer (some ⟨bm, 0, none⟩), .int .i32 ln, .int .i32 1, .int .i8 12, .nilIface] 157)) (wr.alloc (.cells #[.int .i64 3, .string tx, .slice sa 0 sc] 68)).heap.size [bi', bf']) (.iface 155 (.pointer (some ⟨wr.heap.size + 1, 0, none⟩))) [] 1 := by
           have hx : Blk ((wr.alloc (.cells #[.int .i64 3, .string tx, .slice sa 0 sc] 68)).alloc (.cells #[.pointer none, .pointer (some ⟨bm, 0, none⟩), .int .i32 ln, .int .i32 1, .int .i8 12, .nilIface] 157)) (wr.heap.size + 1) 157 [.pointer none, .pointer (some ⟨bm, 0, none⟩), .int .i32 ln, .int .i32 1, .int .i8 12, .nilIface] := by
             have := Blk.new (wr.alloc (.cells #[.int .i64 3, .string tx, .slice sa 0 sc] 68)) 157 [.pointer none, .pointer (some ⟨bm, 0, none⟩), .int .i32 ln, .int .i32 1, .int .i8 12, .nilIface]
             simpa using this
           obtain ⟨_, _, _, _, l5, l6⟩ := HMK.out.lts
           exact .node _ 157 [(5, .o)] (by simp [tbl]) _ _ (Gx.of hx (by simp) (by simp; omega)) [] (.none 5 _ _ rfl .nil) [] 0 .nil
         have OWN1 := hs1.own (own_below HOWN.out HB0.out) (fun r hr => ⟨by have := (HOWN.out.lt r hr).2; have := HB0.out.size; omega, HRO.out r hr⟩)
         obtain ⟨hp1, _, _⟩ := hs1.blk HP0.out HP0.out.lt HPN.out.1 HPN.out.2.1 HPN.out.2.2
         have hb2 : Below ((wr.alloc (.cells #[.int .i64 3, .string tx, .slice sa 0 sc] 68)).alloc (.cells #[.pointer none, .pointer (some ⟨bm, 0, none⟩), .int .i32 ln, .int .i32 1, .int .i8 12, .nilIface] 157)).heap.size ((wr.alloc (.cells #[.int .i64 3, .string tx, .slice sa 0 sc] 68)).alloc (.cells #[.pointer none, .pointer (some ⟨bm, 0, none⟩), .int .i32 ln, .int .i32 1, .int .i8 12, .nilIface] 157)) (((wr.alloc (.cells #[.int .i64 3, .string tx, .slice sa 0 sc] 68)).alloc (.cells #[.pointer none, .pointer (some ⟨bm, 0, none⟩), .int .i32 ln, .int .i32 1, .int .i8 12, .nilIface] 157)).alloc (.cells #[(.iface 155 (.pointer (some ⟨wr.heap.size + 1, 0, none⟩)))] 93)) := (Below.refl _ _).alloc (Nat.le_refl _) _
         have OWN2 := Li (own_below OWN1 hb2)
         have SL2 : Hid (Sl (((wr.alloc (.cells #[.int .i64 3, .string tx, .slice sa 0 sc] 68)).alloc (.cells #[.pointer none, .pointer (some ⟨bm, 0, none⟩), .int .i32 ln, .int .i32 1, .int .i8 12, .nilIface] 157)).alloc (.cells #[(.iface 155 (.pointer (some ⟨wr.heap.size + 1, 0, none⟩)))] 93)) ((wr.heap.size + 2) + 1) (.slice (some ⟨(wr.heap.size + 2), 0, none⟩) 1 1) [(.iface 155 (.pointer (some ⟨wr.heap.size + 1, 0, none⟩)))]) := Li (Sl.one _ _ _ (by simp))
         have HBW : Hid (w.heap.size ≤ (((wr.alloc (.cells #[.int .i64 3, .string tx, .slice sa 0 sc] 68)).alloc (.cells #[.pointer none, .pointer (some ⟨bm, 0, none⟩), .int .i32 ln, .int .i32 1, .int .i8 12, .nilIface] 157)).alloc (.cells #[(.iface 155 (.pointer (some ⟨wr.heap.size + 1, 0, none⟩)))] 93)).heap.size) := Li (by have := hb2.size; have := HB0.out.size; have := hs1.size; omega)
         have FIN : Hid (∀ v3 w3, w3.ownsRow w.heap.size 93 1 v3 (k + 1) (vs ++ [(.iface 155 (.pointer (some ⟨wr.heap.size + 1, 0, none⟩)))]) → (((wr.alloc (.cells #[.int .i64 3, .string tx, .slice sa 0 sc] 68)).alloc (.cells #[.pointer none, .pointer (some ⟨bm, 0, none⟩), .int .i32 ln, .int .i32 1, .int .i8 12, .nilIface] 157)).alloc (.cells #[(.iface 155 (.pointer (some ⟨wr.heap.size + 1, 0, none⟩)))] 93)).grownBy w3 u4.ownBlock → (v3.ownBlock = u4.ownBlock ∨ v3.ownBlock = some (((wr.alloc (.cells #[.int .i64 3, .string tx, .slice sa 0 sc] 68)).alloc (.cells #[.pointer none, .pointer (some ⟨bm, 0, none⟩), .int .i32 ln, .int .i32 1, .int .i8 12, .nilIface] 157)).alloc (.cells #[(.iface 155 (.pointer (some ⟨wr.heap.size + 1, 0, none⟩)))] 93)).heap.size) → PaRel H bm bi bf q pb ln w l v3 (.int .i64 ((k : Int) + 1)) w3) := Li (fun v3 w3 h1 h2 h3 =>
           ⟨MLRel.step HT.out (by omega) HOWN.out HSTP.out HMK.out HNDS.out HC.out HRO.out HB0.out hs1 hm1 hn1 (by omega) hb2 h2 h1 h3 (by rw [nmPs_append, HET.out]; simp [nmP_mk]) (by rw [ctPs_append, HET.out]; simp [ctP_mk]), Li ((hp1.below hb2 hp1.lt).far_own OWN2.out (by decide) h2)⟩)
         clear hs1 hm1 hn1 hb2 OWN1 hp1
         go_wp2_with (at_builtin; refine wpList_append_to _ rfl (.tmp 77) (.tmp 82) 106 rfl w.heap.size 93 iE _ 16 Tryz.underlying106 hiE hzE hsE hbE rfl u4 k _ rfl OWN2.out _ _ _ rfl SL2.out (by intro u hu; simp at hu; subst hu; rfl) (by unfold maxLen; simp; omega) (by simp; omega) HBW.out ?_; intro v3 w3 g1 g2 g3; have FS := Li (FIN.out v3 w3 g1 g2 g3); clear g1 g2 g3)
         go_roundw
         case rel => first | exact FS.out | ((repeat apply Exists.intro); exact ⟨FS.out, rfl⟩)
         case measure => simp [intOf]; omega
       · have HP0 : Hid (Blk (wr.alloc (.cells #[.int .i64 4, .string tx, .slice sa 0 sc] 68)).drew pb 63 [.pointer (some ⟨bm, 0, none⟩), .int .i32 ln, .int .i32 1]) := HP0
         have HE0 : Hid (Blk (wr.alloc (.cells #[.int .i64 4, .string tx, .slice sa 0 sc] 68)).drew wr.heap.size 68 [.int .i64 4, .string tx, .slice sa 0 sc]) := HE0
         have HB0 : Hid (Below wr.heap.size wr (wr.alloc (.cells #[.int .i64 4, .string tx, .slice sa 0 sc] 68)).drew) := Li HB0.out.drew
         have HIDD : Hid (Calls Tryz.prog 42 #[.pointer (some ⟨bm, 0, none⟩), .string tx] (wr.alloc (.cells #[.int .i64 4, .string tx, .slice sa 0 sc] 68)).drew (IdPost H bm bi' bf' (q + ctPs (l.take k)) tx (wr.alloc (.cells #[.int .i64 4, .string tx, .slice sa 0 sc] 68)).drew)) := Li (ident_any H bm bi' bf' (q + ctPs (l.take k)) tx (wr.alloc (.cells #[.int .i64 4, .string tx, .slice sa 0 sc] 68)).drew (HMK.out.below HB0.out) (by omega))
         have KS : Hid (∀ W, Blk W pb 63 [.pointer (some ⟨bm, 0, none⟩), .int .i32 ln, .int .i32 1] → Blk W wr.heap.size 68 [.int .i64 4, .string tx, .slice sa 0 sc] → W.cell? ⟨pb, 0, none⟩ = some (.pointer (some ⟨bm, 0, none⟩)) ∧ W.cell? ⟨pb, 1, none⟩ = some (.int .i32 ln) ∧ W.cell? ⟨pb, 2, none⟩ = some (.int .i32 1) ∧ W.cell? ⟨wr.heap.size, 1, none⟩ = some (.string tx)) := Li (fun W h1 h2 => ⟨h1.cell 0 (by simp), h1.cell 1 (by simp), h1.cell 2 (by simp), h2.cell 1 (by simp)⟩)
         have EN := Li ((HMK.out.below HB0.out).ne HE0.out (by decide) (by decide) (by decide))
         have STEPD : Hid (∀ (w1 : World) (ib bi2 : Nat), Stp (wr.alloc (.cells #[.int .i64 4, .string tx, .slice sa 0 sc] 68)).drew.heap.size (wr.alloc (.cells #[.int .i64 4, .string tx, .slice sa 0 sc] 68)).drew w1 bm bi' bf' bi2 bf' → MK w1 H bm bi2 bf' (q + ctPs (l.take k) + 1) → Nd (Gx w1 (wr.alloc (.cells #[.int .i64 4, .string tx, .slice sa 0 sc] 68)).drew.heap.size [bi2, bf']) (.iface 56 (.pointer (some ⟨ib, 0, none⟩))) [tx] 1 →
             (w1.alloc (.cells #[.pointer none, .pointer (some ⟨bm, 0, none⟩), .int .i32 ln, .int .i32 1, .int .i8 50, .iface 56 (.pointer (some ⟨ib, 0, none⟩))] 157)).ownsRow w.heap.size 93 1 u4 k vs ∧ Blk w1 pb 63 [.pointer (some ⟨bm, 0, none⟩), .int .i32 ln, .int .i32 1] ∧ Blk w1 wr.heap.size 68 [.int .i64 4, .string tx, .slice sa 0 sc] ∧ w.heap.size ≤ w1.heap.size ∧ ∀ v3 w3, w3.ownsRow w.heap.size 93 1 v3 (k + 1) (vs ++ [(.iface 155 (.pointer (some ⟨w1.heap.size, 0, none⟩)))]) → ((w1.alloc (.cells #[.pointer none, .pointer (some ⟨bm, 0, none⟩), .int .i32 ln, .int .i32 1, .int .i8 50, .iface 56 (.pointer (some ⟨ib, 0, none⟩))] 157)).alloc (.cells #[(.iface 155 (.pointer (some ⟨w1.heap.size, 0, none⟩)))] 93)).grownBy w3 u4.ownBlock → (v3.ownBlock = u4.ownBlock ∨ v3.ownBlock = some ((w1.alloc (.cells #[.pointer none, .pointer (some ⟨bm, 0, none⟩), .int .i32 ln, .int .i32 1, .int .i8 50, .iface 56 (.pointer (some ⟨ib, 0, none⟩))] 157)).alloc (.cells #[(.iface 155 (.pointer (some ⟨w1.heap.size, 0, none⟩)))] 93)).heap.size) → PaRel H bm bi bf q pb ln w l v3 (.int .i64 ((k : Int) + 1)) w3 ∧ Blk w3 pb 63 [.pointer (some ⟨bm, 0, none⟩), .int .i32 ln, .int .i32 1] ∧ Blk w3 wr.heap.size 68 [.int .i64 4, .string tx, .slice sa 0 sc]) := Li (fun w1 ib bi2 hs1 hm1 hn1 => by
           have OWN1 := hs1.own (own_below HOWN.out HB0.out) (fun r hr => ⟨by have := (HOWN.out.lt r hr).2; have := HB0.out.size; omega, HRO.out r hr⟩)
           obtain ⟨hp1, _, _⟩ := hs1.blk HP0.out HP0.out.lt HPN.out.1 HPN.out.2.1 HPN.out.2.2
           obtain ⟨he1, _, _⟩ := hs1.blk HE0.out HE0.out.lt EN.out.1 EN.out.2.1 EN.out.2.2
           have hsz := hs1.size
           have hsz0 := HB0.out.size
           have hx : Blk (w1.alloc (.cells #[.pointer none, .pointer (some ⟨bm, 0, none⟩), .int .i32 ln, .int .i32 1, .int .i8 50, .iface 56 (.pointer (some ⟨ib, 0, none⟩))] 157)) w1.heap.size 157 [.pointer none, .pointer (some ⟨bm, 0, none⟩), .int .i32 ln, .int .i32 1, .int .i8 50, .iface 56 (.pointer (some ⟨ib, 0, none⟩))] := Blk.new w1 _ _
           have hbu : Below w1.heap.size w1 (w1.alloc (.cells #[.pointer none, .pointer (some ⟨bm, 0, none⟩), .int .i32 ln, .int .i32 1, .int .i8 50, .iface 56 (.pointer (some ⟨ib, 0, none⟩))] 157)) := (Below.refl _ _).alloc (Nat.le_refl _) _
           have hs2 := hs1.trans (Stp.of_below (hbu.mono hsz))
           have hm2 := hm1.below hbu
           obtain ⟨_, _, _, _, l5, l6⟩ := hm1.lts
           have hn2 : Nd (Gx (w1.alloc (.cells #[.pointer none, .pointer (some ⟨bm, 0, none⟩), .int .i32 ln, .int .i32 1, .int .i8 50, .iface 56 (.pointer (some ⟨ib, 0, none⟩))] 157)) (wr.alloc (.cells #[.int .i64 4, .string tx, .slice sa 0 sc] 68)).drew.heap.size [bi2, bf']) (.iface 155 (.pointer (some ⟨w1.heap.size, 0, none⟩))) [tx] 2 :=
             .node _ 157 [(5, .o)] (by simp [tbl]) _ _ (Gx.of hx hsz (by simp; omega)) _ (.some 5 _ _ _ rfl .nil) [tx] 1 (Nds.one (hn1.mono (Gx.below hbu)))
           have hb2 : Below (w1.alloc (.cells #[.pointer none, .pointer (some ⟨bm, 0, none⟩), .int .i32 ln, .int .i32 1, .int .i8 50, .iface 56 (.pointer (some ⟨ib, 0, none⟩))] 157)).heap.size (w1.alloc (.cells #[.pointer none, .pointer (some ⟨bm, 0, none⟩), .int .i32 ln, .int .i32 1, .int .i8 50, .iface 56 (.pointer (some ⟨ib, 0, none⟩))] 157)) ((w1.alloc (.cells #[.pointer none, .pointer (some ⟨bm, 0, none⟩), .int .i32 ln, .int .i32 1, .int .i8 50, .iface 56 (.pointer (some ⟨ib, 0, none⟩))] 157)).alloc (.cells #[(.iface 155 (.pointer (some ⟨w1.heap.size, 0, none⟩)))] 93)) := (Below.refl _ _).alloc (Nat.le_refl _) _
           have OWN2 := own_below OWN1 hbu
           have OWN3 := own_below OWN2 hb2
           refine ⟨OWN2, hp1, he1, by omega, fun v3 w3 h1 h2 h3 => ?_⟩
           have hp3 := (((hp1.alloc (.cells #[.pointer none, .pointer (some ⟨bm, 0, none⟩), .int .i32 ln, .int .i32 1, .int .i8 50, .iface 56 (.pointer (some ⟨ib, 0, none⟩))] 157)).alloc (.cells #[(.iface 155 (.pointer (some ⟨w1.heap.size, 0, none⟩)))] 93)).far_own OWN3 (by decide) h2)
           have he3 := (((he1.alloc (.cells #[.pointer none, .pointer (some ⟨bm, 0, none⟩), .int .i32 ln, .int .i32 1, .int .i8 50, .iface 56 (.pointer (some ⟨ib, 0, none⟩))] 157)).alloc (.cells #[(.iface 155 (.pointer (some ⟨w1.heap.size, 0, none⟩)))] 93)).far_own OWN3 (by decide) h2)
           exact ⟨⟨MLRel.step HT.out (by omega) HOWN.out HSTP.out HMK.out HNDS.out HC.out HRO.out HB0.out hs2 hm2 hn2 (by omega) hb2 h2 h1 h3 (by rw [nmPs_append, HET.out]; simp [nmP_mk]) (by rw [ctPs_append, HET.out]; simp [ctP_mk]), Li hp3⟩, hp3, he3⟩)
         go_upto_region 19 with fail
         go_region_held3 (fun W => W.cell? ⟨pb, 0, none⟩ = some (.pointer (some ⟨bm, 0, none⟩)) ∧ W.cell? ⟨pb, 1, none⟩ = some (.int .i32 ln) ∧ W.cell? ⟨pb, 2, none⟩ = some (.int .i32 1) ∧ W.cell? ⟨wr.heap.size, 1, none⟩ = some (.string tx)) (with_reducible first | exact KS.out _ HP0.out HE0.out | exact KS.out _ HP1.out HE1.out | exact KS.out _ (HP1.out.alloc _) (HE1.out.alloc _) | exact KS.out _ ((HP1.out.alloc _).alloc _) ((HE1.out.alloc _).alloc _) | exact KS.out _ HP3.out HE3.out)
           ((first
             | (go_at_call 42; (with_reducible refine HIDD.out.mono ?_); rintro e w1 ⟨ib, bi2, rfl, hs1, hm1, hn1, _, _⟩; obtain ⟨ow2, hp1, he1, hw1, stp⟩ := STEPD.out w1 ib bi2 hs1 hm1 hn1; have OW2 := Li (ow2.alloc (.cells #[(.iface 155 (.pointer (some ⟨w1.heap.size, 0, none⟩)))] 93)); have HP1 := Li hp1; have HE1 := Li he1; have STP := Li stp; have HW1 := Li hw1; clear hs1 hm1 hn1 ow2 hp1 he1 stp hw1)
             | (refine step_append_to _ rfl (.tmp 86) (.tmp 96) 106 rfl w.heap.size 93 iE _ 16 Tryz.underlying106 hiE hzE hsE hbE rfl u4 k _ rfl OW2.out _ _ _ rfl (Sl.one _ _ _ (by simp)) (by intro u hu; simp at hu; subst hu; rfl) (by unfold maxLen; simp; omega) (by simp; omega) (by have := HW1.out; simp; omega) ?_; intro v3 w3 g1 g2 g3; obtain ⟨fs, hp3, he3⟩ := STP.out v3 w3 g1 g2 g3; have FS := Li fs; have HP3 := Li hp3; have HE3 := Li he3; clear g1 g2 g3 fs hp3 he3)
             | fail))
         go_wp2_with fail
         go_roundw
         case rel => first | exact FS.out | ((repeat apply Exists.intro); exact ⟨FS.out, rfl⟩)
         case measure => simp [intOf]; omega
     | dflt _ _ _ _ x _ _ _ hx =>
       simp only [ctEs_cons, ctEs_nil, Nat.add_zero, List.length_cons, List.length_nil, Nat.zero_add] at *
       have HO0 : Hid (Old R B (wr.alloc (.cells #[.int .i64 1, .string tx, .slice sa 1 sc] 68)).drew) := HO0
       have HP0 : Hid (Blk (wr.alloc (.cells #[.int .i64 1, .string tx, .slice sa 1 sc] 68)).drew pb 63 [.pointer (some ⟨bm, 0, none⟩), .int .i32 ln, .int .i32 1]) := HP0
       have HE0 : Hid (Blk (wr.alloc (.cells #[.int .i64 1, .string tx, .slice sa 1 sc] 68)).drew wr.heap.size 68 [.int .i64 1, .string tx, .slice sa 1 sc]) := HE0
       have HB0 : Hid (Below wr.heap.size wr (wr.alloc (.cells #[.int .i64 1, .string tx, .slice sa 1 sc] 68)).drew) := Li HB0.out.drew
       have HIDD : Hid (Calls Tryz.prog 42 #[.pointer (some ⟨bm, 0, none⟩), .string tx] (wr.alloc (.cells #[.int .i64 1, .string tx, .slice sa 1 sc] 68)).drew (IdPost H bm bi' bf' (q + ctPs (l.take k)) tx (wr.alloc (.cells #[.int .i64 1, .string tx, .slice sa 1 sc] 68)).drew)) := Li (ident_any H bm bi' bf' (q + ctPs (l.take k)) tx (wr.alloc (.cells #[.int .i64 1, .string tx, .slice sa 1 sc] 68)).drew (HMK.out.below HB0.out) (by omega))
       have KS : Hid (∀ W, Blk W pb 63 [.pointer (some ⟨bm, 0, none⟩), .int .i32 ln, .int .i32 1] → Blk W wr.heap.size 68 [.int .i64 1, .string tx, .slice sa 1 sc] → W.cell? ⟨pb, 0, none⟩ = some (.pointer (some ⟨bm, 0, none⟩)) ∧ W.cell? ⟨pb, 1, none⟩ = some (.int .i32 ln) ∧ W.cell? ⟨pb, 2, none⟩ = some (.int .i32 1) ∧ W.cell? ⟨wr.heap.size, 1, none⟩ = some (.string tx)) := Li (fun W h1 h2 => ⟨h1.cell 0 (by simp), h1.cell 1 (by simp), h1.cell 2 (by simp), h2.cell 1 (by simp)⟩)
       have EN := Li ((HMK.out.below HB0.out).ne HE0.out (by decide) (by decide) (by decide))
       go_upto_region 10 with fail
       go_region_held3 (fun W => W.cell? ⟨pb, 0, none⟩ = some (.pointer (some ⟨bm, 0, none⟩)) ∧ W.cell? ⟨pb, 1, none⟩ = some (.int .i32 ln) ∧ W.cell? ⟨pb, 2, none⟩ = some (.int .i32 1) ∧ W.cell? ⟨wr.heap.size, 1, none⟩ = some (.string tx)) (with_reducible first | exact KS.out _ HP0.out HE0.out | exact KS.out _ HP1.out HE1.out | exact KS.out _ (HP1.out.alloc _) (HE1.out.alloc _))
         ((first
           | (go_at_call 42; (with_reducible refine HIDD.out.mono ?_); rintro e w1 ⟨ib, bi2, rfl, hs1, hm1, hn1, _, _⟩; obtain ⟨hp1, _, _⟩ := hs1.blk HP0.out HP0.out.lt HPN.out.1 HPN.out.2.1 HPN.out.2.2; obtain ⟨he1, _, _⟩ := hs1.blk HE0.out HE0.out.lt EN.out.1 EN.out.2.1 EN.out.2.2; have HP1 := Li hp1; have HE1 := Li he1; have HS1 := Li hs1; have HM1 := Li hm1; have HN1 := Li hn1; clear hs1 hm1 hn1 hp1 he1)
           | fail))
       have hz0 := HB0.out.size
       have hz1 := HS1.out.size
       have OWN1 := HS1.out.own (own_below HOWN.out HB0.out) (fun r hr => ⟨by have := (HOWN.out.lt r hr).2; have := HB0.out.size; omega, HRO.out r hr⟩)
       obtain ⟨xb, hxb⟩ : ∃ xb, w1.heap.size = xb := ⟨_, rfl⟩
       obtain ⟨WB, hWB⟩ : ∃ WB, WB = w1.alloc (.cells #[.pointer none, .iface 56 (.pointer (some ⟨ib, 0, none⟩)), .pointer (some ⟨bm, 0, none⟩), .int .i32 ln, .int .i32 1, .int .i8 24, .nilIface] 160) := ⟨_, rfl⟩
       have hbB : Below w1.heap.size w1 WB := by rw [hWB]; exact (Below.refl _ _).alloc (Nat.le_refl _) _
       have XB : Blk WB xb 160 [.pointer none, .iface 56 (.pointer (some ⟨ib, 0, none⟩)), .pointer (some ⟨bm, 0, none⟩), .int .i32 ln, .int .i32 1, .int .i8 24, .nilIface] := by rw [hWB, ← hxb]; exact Blk.new w1 _ _
       have heB := HE1.out.below hbB HE1.out.lt
       have hpB := HP1.out.below hbB HP1.out.lt
       have hmB := HM1.out.below hbB
       have f2 := heB.cell 2 (by simp)
       have WT := Li (want_any H bm bi2 bf' _ WB hmB)
       have HBB := Li hbB
       have HXB := Li XB
       have HEB := Li heB
       have HPBB := Li hpB
       have HMB := Li hmB
       have OWNB := Li (own_below OWN1 hbB)
       have flB := heB.lt
       have hxn := Li (hmB.ne XB (by decide) (by decide) (by decide))
       have hen := Li (hmB.ne heB (by decide) (by decide) (by decide))
       have hpn := Li (hmB.ne hpB (by decide) (by decide) (by decide))
       clear hbB XB heB hpB hmB OWN1
       subst hWB
       go_wp2_with fail
       refine WT.out.mono ?_
       rintro e w2 ⟨rfl, hs2, hm2⟩
       obtain ⟨hx2, _, _⟩ := hs2.blk HXB.out HXB.out.lt hxn.out.1 hxn.out.2.1 hxn.out.2.2
       obtain ⟨he2, _, _⟩ := hs2.blk HEB.out HEB.out.lt hen.out.1 hen.out.2.1 hen.out.2.2
       obtain ⟨hp2, _, _⟩ := hs2.blk HPBB.out HPBB.out.lt hpn.out.1 hpn.out.2.1 hpn.out.2.2
       have hzB := HBB.out.size
       have hz2 := hs2.size
       have hxlt := hx2.lt
       have hO2 : Old R B w2 := HO0.out.below (((HS1.out.below (by omega) (by have := HMK.out.lts; omega) (by have := HMK.out.lts; omega) (by have := HMK.out.lts; omega) : Below H _ w1).trans (HBB.out.mono (by omega))).trans (hs2.below (by omega) (by have := HM1.out.lts; omega) (by have := HM1.out.lts; omega) (by omega)) |>.mono hBH)
       obtain ⟨_, _, e2, _, _, hr2⟩ := HXA.out.form
       simp only [Value.slice.injEq] at e2
       obtain ⟨rb, ro, hsa, hxr⟩ := hr2 (by simp)
       rw [← e2.1] at hsa
       subst hsa
       obtain ⟨kd', op', tx', v', nm', ca', cb', cc', cd', ma', mc', ka', kc', sa', sc', pa', pc', et', hxv', hx', hbB', q0, q1, q2, q3, q4, q5, q6, q7, q8, q9, q10⟩ := (hxr 0 x rfl).cells hO2
       rw [Nat.zero_mul, Nat.add_zero] at q0 q1 q2 q3 q4 q5 q6 q7 q8 q9 q10
       have hct : ctEs [x] = ctE x := by simp
       have MX := Li (HKS.out x (by simp) _ w2 bi2 bf' _ hxv' hO2 hBH hm2 (by omega) hx)
       have k2 := he2.cell 2 (by simp)
       have kl2 := he2.lt
       have HS2 := Li hs2
       have HX2 := Li hx2
       have HP2 := Li hp2
       have HXN2 := Li (hm2.ne hx2 (by decide) (by decide) (by decide))
       have HPN2 := Li (hm2.ne hp2 (by decide) (by decide) (by decide))
       have OWN2 := Li (hs2.own OWNB.out (fun r hr => by
         have h1 := (OWNB.out.lt r hr).2
         exact ⟨h1, by
           have := HRO.out r hr
           have := (HOWN.out.lt r hr).2
           refine ⟨by omega, ?_, by omega⟩
           rcases HS1.out.hi with e | e
           · omega
           · have := HB0.out.size; omega⟩))
       clear hs2 hx2 he2 hp2 hm2 WT hxv' hx' et' hO2 hxr e2 hr2 hct
       go_wp2_with fail
       refine MX.out.mono ?_
       rintro e w3 ⟨Tx, bx, cx, bi3, bf3, rfl, hs3, hm3, hn3, hc3⟩
       obtain ⟨hx3, n1, n2⟩ := hs3.blk HX2.out HX2.out.lt HXN2.out.1 HXN2.out.2.1 HXN2.out.2.2
       obtain ⟨hp3, _, _⟩ := hs3.blk HP2.out HP2.out.lt HPN2.out.1 HPN2.out.2.1 HPN2.out.2.2
       have hz3 := hs3.size
       have x6 := hx3.cell 6 (by simp)
       have xf := hx3.free 6
       have xl := hx3.lt
       have hst13 : Stp w1.heap.size w1 w3 bm bi2 bf' bi3 bf3 := ((Stp.of_below HBB.out).trans (HS2.out.mono hzB)).trans (hs3.mono (by omega))
       have hst14 : Stp w1.heap.size w1 (w3.setCell ⟨xb, 6, none⟩ (.iface Tx (.pointer (some ⟨bx, 0, none⟩)))) bm bi2 bf' bi3 bf3 := hst13.set_far (by omega)
       obtain ⟨W4, hW4⟩ : ∃ W4, W4 = w3.setCell ⟨xb, 6, none⟩ (.iface Tx (.pointer (some ⟨bx, 0, none⟩))) := ⟨_, rfl⟩
       have hs1 : Stp (wr.alloc (.cells #[.int .i64 1, .string tx, .slice (some ⟨rb, ro, none⟩) 1 sc] 68)).drew.heap.size (wr.alloc (.cells #[.int .i64 1, .string tx, .slice (some ⟨rb, ro, none⟩) 1 sc] 68)).drew W4 bm bi' bf' bi3 bf3 := by rw [hW4]; exact HS1.out.trans (hst14.mono hz1)
       have hm1 : MK W4 H bm bi3 bf3 (q + ctPs (l.take k) + (1 + ctE x)) := by
         rw [hW4]
         have := hm3.set_far (o := 6) (v := .iface Tx (.pointer (some ⟨bx, 0, none⟩))) HXN2.out.1 n1 n2
         rwa [show q + ctPs (l.take k) + 1 + ctE x = q + ctPs (l.take k) + (1 + ctE x) by omega] at this
       have hx4 := hx3.set 6 (.iface Tx (.pointer (some ⟨bx, 0, none⟩)))
       rw [← hW4] at hx4
       have hbm : bm < (wr.alloc (.cells #[.int .i64 1, .string tx, .slice (some ⟨rb, ro, none⟩) 1 sc] 68)).drew.heap.size := by have := HB0.out.size; omega
       have hni : Nd (Gx W4 (wr.alloc (.cells #[.int .i64 1, .string tx, .slice (some ⟨rb, ro, none⟩) 1 sc] 68)).drew.heap.size [bi3, bf3]) (.iface 56 (.pointer (some ⟨ib, 0, none⟩))) [tx] 1 := HN1.out.mono (by rw [hW4]; exact Gx.stp hst14 hbm [])
       have hnx : Nd (Gx W4 (wr.alloc (.cells #[.int .i64 1, .string tx, .slice (some ⟨rb, ro, none⟩) 1 sc] 68)).drew.heap.size [bi3, bf3]) (.iface Tx (.pointer (some ⟨bx, 0, none⟩))) (nmE x) cx := hn3.mono (Gx.le (by omega) fun b h1 h2 h3 => ⟨h3, by rw [hW4]; exact Below.heap_setCell w3 ⟨xb, 6, none⟩ _ b (by show b ≠ xb; omega)⟩)
       have hn1 : Nd (Gx W4 (wr.alloc (.cells #[.int .i64 1, .string tx, .slice (some ⟨rb, ro, none⟩) 1 sc] 68)).drew.heap.size [bi3, bf3]) (.iface 158 (.pointer (some ⟨xb, 0, none⟩))) ([tx] ++ nmE x) (1 + cx + 1) :=
         .node _ 160 [(1, .x), (6, .x)] (by simp [tbl]) _ _ (Gx.of hx4 (by omega) (by simp; exact ⟨n1, n2⟩)) _ (.x 1 _ _ _ rfl (.x 6 _ _ _ rfl .nil)) _ _ ((Nds.one hni).append (Nds.one hnx))
       have hz4 : W4.heap.size = w3.heap.size := by rw [hW4]; simp [World.setCell]
       have OWN3 := hs3.own OWN2.out (fun r hr => by
         have h1 := (OWN2.out.lt r hr).2
         have := HRO.out r hr
         have := (HOWN.out.lt r hr).2
         have := HB0.out.size
         refine ⟨h1, by omega, ?_, by omega⟩
         rcases HS1.out.hi with e | e <;> omega)
       have hgx : w3.grownBy W4 (some xb) := by rw [hW4]; exact ⟨rfl, rfl, rfl, by simp [World.setCell], fun b _ hne => Below.heap_setCell w3 ⟨xb, 6, none⟩ _ b (fun e => hne (by rw [e]))⟩
       have OWN1 := OWN3.kept hgx (.inr (own_other OWN3 hx3 (by decide)))
       have hp1 : Blk W4 pb 63 [.pointer (some ⟨bm, 0, none⟩), .int .i32 ln, .int .i32 1] := by rw [hW4]; exact hp3.far (by have := HP1.out.lt; show pb ≠ xb; omega) _
       have hsz4 : xb < W4.heap.size := by omega
       have hb2 : Below W4.heap.size W4 (W4.alloc (.cells #[(.iface 158 (.pointer (some ⟨xb, 0, none⟩)))] 93)) := (Below.refl _ _).alloc (Nat.le_refl _) _
       have OWN2 := Li (own_below OWN1 hb2)
       have SL2 : Hid (Sl (W4.alloc (.cells #[(.iface 158 (.pointer (some ⟨xb, 0, none⟩)))] 93)) (W4.heap.size + 1) (.slice (some ⟨W4.heap.size, 0, none⟩) 1 1) [(.iface 158 (.pointer (some ⟨xb, 0, none⟩)))]) := Li (Sl.one _ _ _ (rfl))
       have HBW : Hid (w.heap.size ≤ (W4.alloc (.cells #[(.iface 158 (.pointer (some ⟨xb, 0, none⟩)))] 93)).heap.size) := Li (by have := hb2.size; have := HB0.out.size; have := hs1.size; omega)
       have FIN : Hid (∀ v3 w3, w3.ownsRow w.heap.size 93 1 v3 (k + 1) (vs ++ [(.iface 158 (.pointer (some ⟨xb, 0, none⟩)))]) → (W4.alloc (.cells #[(.iface 158 (.pointer (some ⟨xb, 0, none⟩)))] 93)).grownBy w3 u4.ownBlock → (v3.ownBlock = u4.ownBlock ∨ v3.ownBlock = some (W4.alloc (.cells #[(.iface 158 (.pointer (some ⟨xb, 0, none⟩)))] 93)).heap.size) → PaRel H bm bi bf q pb ln w l v3 (.int .i64 ((k : Int) + 1)) w3) := Li (fun v3 w3 h1 h2 h3 =>
         ⟨MLRel.step HT.out (by omega) HOWN.out HSTP.out HMK.out HNDS.out HC.out HRO.out HB0.out hs1 hm1 hn1 (by omega) hb2 h2 h1 h3 (by rw [nmPs_append, HET.out]; simp [nmP_mk]) (by rw [ctPs_append, HET.out]; simp [ctP_mk]), Li ((hp1.below hb2 hp1.lt).far_own OWN2.out (by decide) h2)⟩)
       clear hs1 hm1 hn1 hb2 OWN1 hp1 hs3 hm3 hn3 hx3 hp3 hst13 hst14 hx4 hni hnx OWN3 hgx hz4
       go_upto_region 13 with fail
       rw [← hW4]
       clear hW4
       go_wp2_with (at_builtin; refine wpList_append_to _ rfl (.tmp 56) (.tmp 59) 106 rfl w.heap.size 93 iE _ 16 Tryz.underlying106 hiE hzE hsE hbE rfl u4 k _ rfl OWN2.out _ _ _ rfl SL2.out (by intro u hu; rcases List.mem_singleton.1 hu with rfl; rfl) (by unfold maxLen; (try simp only [List.length_cons, List.length_nil]); omega) (by (try simp only [List.length_cons, List.length_nil]); omega) HBW.out ?_; intro v3 w3 g1 g2 g3; have FS := Li (FIN.out v3 w3 g1 g2 g3); clear g1 g2 g3)
       go_roundw
       case rel => first | exact FS.out | ((repeat apply Exists.intro); exact ⟨FS.out, rfl⟩)
       case measure => simp [intOf]; omega
   · obtain rfl : k = l.length := by omega
     have FIN := Li (MLRel.fin HOWN.out HSTP.out HMK.out HNDS.out HC.out HRO.out)
     clear HOWN HSTP HMK HNDS HC HRO
     go_wp2_with fail
     go_ret
     exact FIN.out
end Go.Proofs.YtoojgjhfmmohbaaGreat
