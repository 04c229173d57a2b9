/- maker.expr at any expression that a text could be. The maker's statements: contracts; maker.stmts, maker.body; the deferred closure (printed by genwkst.py). -/
import Derived.Test.YtoojgjhfmmohbaaGreatWkEx3
import Derived.Defers
namespace Go.Proofs.YtoojgjhfmmohbaaGreat
open Go.RowKit Dig
set_option linter.unusedVariables false
set_option linter.unusedSimpArgs false
set_option maxRecDepth 100000
theorem mex_upto (R : Nat → Nat → Option Value) (B H bm : Nat) (n : Nat) : ∀ t : Tr, SizeOf.sizeOf t < n → MEx R B H bm t := by
 induction n with
 | zero => intro t h; omega
 | succ n ih =>
   intro t ht cs w bi bf q vt ho hBH hm hq ok
   have IH : ∀ s, SizeOf.sizeOf s < SizeOf.sizeOf t → MEx R B H bm s := fun s hs => ih s (by omega)
   clear ih ht
   obtain ⟨kd, op, tx, v, nm, a, b, c, d, ma, mc, ka, kc, sa, sc, pa, pc, rfl, rfl, hvr, hxa, hpb, _⟩ := vt.form
   have ok' := ok
   cases ok with
   | name => exact mex_k1 op tx v nm c d ma ka sa pa mc kc sc pc w bi bf q IH hvr hxa hpb vt ho hBH hm hq ok'
   | lit => exact mex_k2 op tx v nm c d ma ka sa pa mc kc sc pc w bi bf q IH hvr hxa hpb vt ho hBH hm hq ok'
   | many _ _ _ _ _ _ _ _ hk h => exact mex_rest op tx v nm kd a [] (by unfold PlK; omega) h c d ma ka sa pa mc kc sc pc w bi bf q IH hvr hxa hpb vt ho hBH hm hq ok'
   | dict _ _ _ _ _ _ _ _ h => exact mex_k5 op tx v nm a c d ma ka sa pa mc kc sc pc w bi bf q IH hvr hxa hpb vt ho hBH hm hq ok'
   | unary _ _ _ _ x _ _ h1 h2 hx => exact mex_rest op tx v nm 6 [x] [] (by unfold PlK; omega) (by simp; exact hx) c d ma ka sa pa mc kc sc pc w bi bf q IH hvr hxa hpb vt ho hBH hm hq ok'
   | binary _ _ _ _ x y _ _ h1 h2 hx hy => exact mex_rest op tx v nm 7 [x, y] [] (by unfold PlK; omega) (by simp; exact ⟨hx, hy⟩) c d ma ka sa pa mc kc sc pc w bi bf q IH hvr hxa hpb vt ho hBH hm hq ok'
   | two _ _ _ _ _ x y _ _ hk hx hy => exact mex_rest op tx v nm kd [x, y] [] (by unfold PlK; omega) (by simp; exact ⟨hx, hy⟩) c d ma ka sa pa mc kc sc pc w bi bf q IH hvr hxa hpb vt ho hBH hm hq ok'
   | cond _ _ _ _ x y z _ _ hx hy hz => exact mex_rest op tx v nm 10 [x, y, z] [] (by unfold PlK; omega) (by simp; exact ⟨hx, hy, hz⟩) c d ma ka sa pa mc kc sc pc w bi bf q IH hvr hxa hpb vt ho hBH hm hq ok'
   | slice _ _ _ _ x lo hi st => exact mex_k12 op tx v nm x lo hi st c d ma ka sa pa mc kc sc pc w bi bf q IH hvr hxa hpb vt ho hBH hm hq ok'
   | dot _ _ _ _ x _ _ hx => exact mex_rest op tx v nm 13 [x] [] (by unfold PlK; omega) (by simp; exact hx) c d ma ka sa pa mc kc sc pc w bi bf q IH hvr hxa hpb vt ho hBH hm hq ok'
   | call _ _ _ _ f l => exact mex_k14 op tx v nm f l c d ma ka sa pa mc kc sc pc w bi bf q IH hvr hxa hpb vt ho hBH hm hq ok'
   | lam _ _ _ _ x _ _ _ => exact mex_k18 op tx v nm x b c d ma ka sa pa mc kc sc pc w bi bf q IH hvr hxa hpb vt ho hBH hm hq ok'
   | listOf _ _ _ _ x k l => exact mex_k19 op tx v nm x k l c d ma ka sa pa mc kc sc pc w bi bf q IH hvr hxa hpb vt ho hBH hm hq ok'
   | dictOf _ _ _ _ x y k l => exact mex_k20 op tx v nm x y k l c d ma ka sa pa mc kc sc pc w bi bf q IH hvr hxa hpb vt ho hBH hm hq ok'
   | paren _ _ _ _ x _ _ hx => exact mex_rest op tx v nm 23 [x] [] (by unfold PlK; omega) (by simp; exact hx) c d ma ka sa pa mc kc sc pc w bi bf q IH hvr hxa hpb vt ho hBH hm hq ok'
theorem mex_any (R : Nat → Nat → Option Value) (B H bm : Nat) (t : Tr) : MEx R B H bm t := mex_upto R B H bm _ t (Nat.lt_succ_self _)
def MSt (R : Nat → Nat → Option Value) (B H bm : Nat) (t : Tr) : Prop := ∀ (cs : List Value) (w : World) (bi bf q : Nat), StV R t cs → Old R B w → B ≤ H → MK w H bm bi bf q → q + ctS t ≤ 8192 → OkS t → PlS t →
 Calls Tryz.prog 28 #[.pointer (some ⟨bm, 0, none⟩), .agg cs.toArray] w (MPost H bm bi bf q (ctS t) (nmS t) w)
theorem MLPost.pre {H bm bi bf q n len : Nat} {ns : List ByteArray} {w W w' : World} {e : Ending} (h : MLPost H bm bi bf q n len ns W e w') (hs : Stp w.heap.size w W bm bi bf bi bf) : MLPost H bm bi bf q n len ns w e w' := by
 obtain ⟨a, cc, vs, c, bi', bf', rfl, hvl, hs4, hm4, hr4, hn4, hc4⟩ := h
 have hz := hs.size
 have hg : GLe (Gx w' W.heap.size [bi', bf']) (Gx w' w.heap.size [bi', bf']) := Gx.le hz fun b _ _ h3 => ⟨h3, rfl⟩
 exact ⟨a, cc, vs, c, bi', bf', rfl, hvl, hs.trans (hs4.mono hz), hm4, hr4.mono hg, hn4.mono hg, hc4⟩
theorem MLPost.ret {H bm bi bf q n len : Nat} {ns : List ByteArray} {w w' : World} {e : Ending} (h : MLPost H bm bi bf q n len ns w e w') : ∃ a cc, e = .returned (.slice a len cc) := by
 obtain ⟨a, cc, vs, c, bi', bf', rfl, _⟩ := h
 exact ⟨a, cc, rfl⟩
theorem len_le_ctSs {l : List Tr} : l.length ≤ ctSs l := by
 induction l with
 | nil => simp
 | cons t l ih =>
   have h1 : 1 ≤ ctS t := by cases t; rw [ctS_mk]; omega
   simp
   omega
set_option maxHeartbeats 3200000 in
theorem mstmts_of {R : Nat → Nat → Option Value} {B H bm : Nat} {l : List Tr} (HE : ∀ t ∈ l, MSt R B H bm t) (hok : ∀ t ∈ l, OkS t) (hpl : ∀ t ∈ l, PlS t) (a : Option Addr) (c : Nat) (w : World) (bi bf q : Nat) (hl : StL R l (.slice a l.length c)) (ho : Old R B w) (hBH : B ≤ H) (hm : MK w H bm bi bf q) (hq : q + ctSs l ≤ 8192) (hlen : l.length ≤ 8192) :
   Calls Tryz.prog 23 #[.pointer (some ⟨bm, 0, none⟩), .slice a l.length c] w (MLPost H bm bi bf q (ctSs l) l.length (nmSs l) w) := by
 obtain ⟨iE, hiE, hzE, hsE, hbE⟩ := info_parts infoSt
 obtain ⟨a', c', e, hc, hmx, hrow⟩ := hl.form
 simp only [Value.slice.injEq, true_and] at e
 obtain ⟨rfl, rfl⟩ := e
 unfold maxLen at hmx
 obtain ⟨g1, g2, g3, g4, g5, g6⟩ := hm.lts
 have START := Li (MLRel.start 172 (C := ctSs) l hm nmSs_nil)
 have HO := Li ho; have HR := Li hrow; have HEH := Li HE; have HOK := Li hok; have HPL := Li hpl
 clear ho hrow HE hok hpl hl hm
 go_enter Tryz.func23, Tryz.ntmps23
 go_wp2_with fail
 go_loopw [4, 9] (MLRel 172 nmSs ctSs H bm bi bf q w l) (fun _ i _ => l.length - (intOf i).toNat)
 case atStart => exact START.out
 case round =>
   obtain ⟨k, vs, cn, bi', bf', hk, rfl, HOWN, HSTP, HMK, HNDS, HC, HRO⟩ := hrel
   clear START
   by_cases hlt : k < l.length
   · obtain ⟨t, ht⟩ : ∃ t, l[k]? = some t := ⟨_, List.getElem?_eq_getElem hlt⟩
     have hwr : Old R B wr := HO.out.below (HSTP.out.below (by omega) (by omega) (by omega) (by omega))
     obtain ⟨b, o, rfl, hx⟩ := HR.out (by intro h; rw [h] at hlt; simp at hlt)
     obtain ⟨kd, op, tx, v, nm, ca, cb, cc, cd, na, nc, sa, sc, pa, pc, ba, bc, ea, ec, et, hxv, hall, hbB, c0, c1, c2, c3, c4, c5, c6, c7⟩ := (hx k t ht).cells hwr
     obtain ⟨W0, hW0⟩ : ∃ W0, W0 = wr.alloc (.cells #[.int .i64 kd, .int .i64 op, .string tx, .slice na nm.length nc, .slice sa ca.length sc, .slice pa cb.length pc, .slice ba cc.length bc, .slice ea cd.length ec] 42) := ⟨_, rfl⟩
     have hb0 : Below wr.heap.size wr W0 := by rw [hW0]; exact (Below.refl _ _).alloc (Nat.le_refl _) _
     have hle := len_takeC ctSs_append ht
     simp only [ctSs_cons, ctSs_nil, Nat.add_zero] at hle
     have hO0 : Old R B W0 := hwr.below (hb0.mono (by have := HSTP.out.size; omega))
     have HCALL := Li (HEH.out t (List.mem_of_getElem? ht) _ W0 bi' bf' (q + ctSs (l.take k)) hxv hO0 hBH (HMK.out.below hb0) (by omega) (HOK.out t (List.mem_of_getElem? ht)) (HPL.out t (List.mem_of_getElem? ht)))
     have HB0 := Li hb0
     have HT := Li ht
     have hsw : w.heap.size ≤ wr.heap.size := HSTP.out.size
     clear ht et hxv hall hx hwr hb0 hO0 hle
     subst hW0
     go_wp2_with fail
     refine HCALL.out.mono ?_
     rintro e w1 ⟨T1, b1, n1, bi2, bf2, rfl, hs1, hm1, hn1, hc1⟩
     have hz1 := hs1.size
     have hb2 : Below w1.heap.size w1 (w1.alloc (.cells #[.iface T1 (.pointer (some ⟨b1, 0, none⟩))] 172)) := (Below.refl _ _).alloc (Nat.le_refl _) _
     have hro : ∀ r, u4.ownBlock = some r → r < wr.heap.size ∧ r ≠ bm ∧ r ≠ bi' ∧ r ≠ bf' := fun r hr => ⟨(HOWN.out.lt r hr).2, HRO.out r hr⟩
     have OWN0 := own_below HOWN.out HB0.out
     have OWN1 := hs1.own OWN0 (fun r hr => ⟨by have := hro r hr; have := HB0.out.size; omega, (hro r hr).2⟩)
     have OWN2 := Li (own_below OWN1 hb2)
     have SL2 : Hid (Sl (w1.alloc (.cells #[.iface T1 (.pointer (some ⟨b1, 0, none⟩))] 172)) (w1.heap.size + 1) (.slice (some ⟨w1.heap.size, 0, none⟩) 1 1) [.iface T1 (.pointer (some ⟨b1, 0, none⟩))]) := Li (Sl.one _ _ _ rfl)
     have HBW : Hid (w.heap.size ≤ (w1.alloc (.cells #[.iface T1 (.pointer (some ⟨b1, 0, none⟩))] 172)).heap.size) := Li (by have := hb2.size; have := HB0.out.size; omega)
     have FIN : Hid (∀ v3 w3, w3.ownsRow w.heap.size 172 1 v3 (k + 1) (vs ++ [.iface T1 (.pointer (some ⟨b1, 0, none⟩))]) → (w1.alloc (.cells #[.iface T1 (.pointer (some ⟨b1, 0, none⟩))] 172)).grownBy w3 u4.ownBlock → (v3.ownBlock = u4.ownBlock ∨ v3.ownBlock = some (w1.alloc (.cells #[.iface T1 (.pointer (some ⟨b1, 0, none⟩))] 172)).heap.size) → MLRel 172 nmSs ctSs H bm bi bf q w l v3 (.int .i64 ((k : Int) + 1)) w3) := Li (fun v3 w3 h1 h2 h3 =>
       MLRel.step HT.out (by omega) HOWN.out HSTP.out HMK.out HNDS.out HC.out HRO.out HB0.out hs1 hm1 hn1 (by omega) hb2 h2 h1 h3 (by rw [nmSs_append]; simp) (by rw [ctSs_append]; simp))
     clear hs1 hm1 hn1 hc1 hb2 hro OWN0 OWN1 HCALL
     go_wp2_with (at_builtin; refine wpList_append_to _ rfl (.tmp 13) (.tmp 17) 84 rfl w.heap.size 172 iE _ 16 Tryz.underlying84 hiE hzE hsE hbE rfl u4 k _ rfl OWN2.out _ _ _ rfl SL2.out (by intro u hu; simp at hu; subst hu; rfl) (by unfold maxLen; simp; omega) (by simp; omega) HBW.out ?_; intro v3 w3 g1 g2 g3; have FS := Li (FIN.out v3 w3 g1 g2 g3); clear g1 g2 g3)
     go_roundw
     case rel => first | exact FS.out | ((repeat apply Exists.intro); exact ⟨FS.out, rfl⟩)
     case measure => simp [intOf]; omega
   · obtain rfl : k = l.length := by omega
     have FIN := Li (MLRel.fin HOWN.out HSTP.out HMK.out HNDS.out HC.out HRO.out)
     clear HOWN HSTP HMK HNDS HC HRO
     go_wp2_with fail
     go_ret
     exact FIN.out
set_option maxHeartbeats 3200000 in
theorem mbody_of {R : Nat → Nat → Option Value} {B H bm : Nat} {l : List Tr} (HE : ∀ t ∈ l, MSt R B H bm t) (hok : ∀ t ∈ l, OkS t) (hpl : ∀ t ∈ l, PlS t) (hne : l ≠ []) (a : Option Addr) (c : Nat) (w : World) (bi bf q : Nat) (hl : StL R l (.slice a l.length c)) (ho : Old R B w) (hBH : B ≤ H) (hm : MK w H bm bi bf q) (hq : q + ctSs l ≤ 8192) :
   Calls Tryz.prog 44 #[.pointer (some ⟨bm, 0, none⟩), .slice a l.length c] w (MLPost H bm bi bf q (ctSs l) l.length (nmSs l) w) := by
 have hd : decide ((0 : Int) < (l.length : Int)) = true := decide_eq_true (by cases l with | nil => exact absurd rfl hne | cons x l => simp)
 have hdn : decide (0 < l.length) = true := decide_eq_true (by cases l with | nil => exact absurd rfl hne | cons x l => simp)
 have WT := Li (want_any H bm bi bf q w hm)
 have hll := len_le_ctSs (l := l)
 have ST : Hid (∀ w1, Stp w.heap.size w w1 bm bi bf bi bf → MK w1 H bm bi bf q → Calls Tryz.prog 23 #[.pointer (some ⟨bm, 0, none⟩), .slice a l.length c] w1 (MLPost H bm bi bf q (ctSs l) l.length (nmSs l) w1)) := Li (fun w1 hs1 hm1 => by
   have hml := hm.lts
   exact mstmts_of HE hok hpl a c w1 bi bf q hl (ho.below ((hs1.below (H := H) (by omega) (by omega) (by omega) (by omega)).mono hBH)) hBH hm1 hq (by omega))
 clear HE hok hpl hne hl ho hm hll
 go_enter Tryz.func44, Tryz.ntmps44
 go_wp2_with fail
 with_reducible refine WT.out.mono ?_
 rintro e w1 ⟨rfl, hs1, hm1⟩
 have HS1 := Li hs1
 have CL := Li (ST.out w1 hs1 hm1)
 clear WT ST hs1 hm1
 go_wp2_with fail
 refine CL.out.mono ?_
 rintro e w4 h4
 obtain ⟨a4, c4, rfl⟩ := h4.ret
 have FIN := Li (h4.pre HS1.out)
 clear h4 CL
 go_wp2_with fail
 go_ret
 exact FIN.out
theorem Stp.set_m {S : Nat} {w : World} {bm bi bf k : Nat} (v : Value) : Stp S w (w.setCell ⟨bm, k, none⟩ v) bm bi bf bi bf :=
 ⟨rfl, rfl, rfl, by simp [World.setCell], fun b _ h1 _ _ => Below.heap_setCell w ⟨bm, k, none⟩ v b h1, .inl rfl, .inl rfl⟩
theorem MK.set_cnt {w : World} {H bm bi bf q q' : Nat} (h : MK w H bm bi bf q) {n : Int} (h0 : 0 ≤ n) (h1 : n ≤ q') (hq : q ≤ q') : MK (w.setCell ⟨bm, 1, none⟩ (.int .i32 n)) H bm bi bf q' := by
 obtain ⟨nm, cnt, line, vi, vf, ni, nf, xi, xf, hk, hi, hf, hb, e1, e2, hH⟩ := h
 have hgs : w.grownBy (w.setCell ⟨bm, 1, none⟩ (.int .i32 n)) (some bm) := ⟨rfl, rfl, rfl, by simp [World.setCell], fun b _ hne => Below.heap_setCell w ⟨bm, 1, none⟩ _ b (fun e => hne (by rw [e]))⟩
 exact ⟨nm, n, line, vi, vf, ni, nf, xi, xf, by simpa using hk.set 1 (.int .i32 n), hi.kept hgs (.inr (own_other hi hk (by decide))), hf.kept hgs (.inr (own_other hf hk (by decide))), by omega, e1, e2, hH⟩
theorem MK.set_line {w : World} {H bm bi bf q q' : Nat} (h : MK w H bm bi bf q) {n : Int} (h0 : 0 ≤ n) (h1 : n ≤ q') (hq : q ≤ q') : MK (w.setCell ⟨bm, 2, none⟩ (.int .i32 n)) H bm bi bf q' := by
 obtain ⟨nm, cnt, line, vi, vf, ni, nf, xi, xf, hk, hi, hf, hb, e1, e2, hH⟩ := h
 have hgs : w.grownBy (w.setCell ⟨bm, 2, none⟩ (.int .i32 n)) (some bm) := ⟨rfl, rfl, rfl, by simp [World.setCell], fun b _ hne => Below.heap_setCell w ⟨bm, 2, none⟩ _ b (fun e => hne (by rw [e]))⟩
 exact ⟨nm, cnt, n, vi, vf, ni, nf, xi, xf, by simpa using hk.set 2 (.int .i32 n), hi.kept hgs (.inr (own_other hi hk (by decide))), hf.kept hgs (.inr (own_other hf hk (by decide))), by omega, e1, e2, hH⟩
theorem MPost.line {H bm bi bf q n : Nat} {ns : List ByteArray} {w w' : World} {e : Ending} (h : MPost H bm bi bf q n ns w e w') (hl : bm < w.heap.size) {x : Int} (h0 : 0 ≤ x) (h1 : x ≤ q + n) : MPost H bm bi bf q n ns w e (w'.setCell ⟨bm, 2, none⟩ (.int .i32 x)) := by
 obtain ⟨T, b, c, bi', bf', rfl, hs4, hm4, hn4, hc4⟩ := h
 refine ⟨T, b, c, bi', bf', rfl, ?_, hm4.set_line h0 (by omega) (Nat.le_refl _), hn4.mono (Gx.le (Nat.le_refl _) fun b h1 _ h3 => ⟨h3, Below.heap_setCell w' ⟨bm, 2, none⟩ _ b (by show b ≠ bm; omega)⟩), hc4⟩
 exact ⟨hs4.os, hs4.tape, hs4.output, by simpa [World.setCell] using hs4.size, fun b h1 h2 h3 h4 => (Below.heap_setCell w' ⟨bm, 2, none⟩ _ b h2).trans (hs4.block b h1 h2 h3 h4), hs4.hi, hs4.hf⟩
theorem line_deferred (u : FrameMode) (w : World) (bm ob mb : Nat) (x y : Int) (h1 : w.cell? ⟨ob, 0, none⟩ = some (.int .i32 x)) (h2 : w.cell? ⟨mb, 0, none⟩ = some (.pointer (some ⟨bm, 0, none⟩))) (h3 : w.cell? ⟨bm, 2, none⟩ = some (.int .i32 y)) (h4 : w.frozen? ⟨bm, 2, none⟩ = false) (h5 : bm < w.heap.size) :
   CallsD Tryz.prog 34 #[.pointer (some ⟨ob, 0, none⟩), .pointer (some ⟨mb, 0, none⟩)] u w fun e u' w' => u' = u ∧ (e = .returned (.tuple #[]) ∧ w' = w.setCell ⟨bm, 2, none⟩ (.int .i32 x)) := by
 go_enter_d Tryz.func34, Tryz.ntmps34
 go_wp2_with fail
 go_end0
 exact ⟨rfl, rfl⟩
end Go.Proofs.YtoojgjhfmmohbaaGreat
