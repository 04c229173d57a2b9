/- maker.plain: a node of nodes that are made (printed by genwkplain.py). -/
import Derived.Test.YtoojgjhfmmohbaaGreatMLit
import Derived.RegionTactic
import Derived.BigRegion
namespace Go.Proofs.YtoojgjhfmmohbaaGreat
open Go.RowKit Dig
set_option linter.unusedVariables false
set_option linter.unusedSimpArgs false
set_option maxRecDepth 100000
def PlPost (H bm bi bf q lo c : Nat) (ns : List ByteArray) (w : World) (e : Ending) (w' : World) : Prop :=
 ∃ T b, e = .returned (.iface T (.pointer (some ⟨b, 0, none⟩))) ∧ Stp w.heap.size w w' bm bi bf bi bf ∧ MK w' H bm bi bf q ∧ Nd (Gx w' lo [bi, bf]) (.iface T (.pointer (some ⟨b, 0, none⟩))) ns c
theorem Nd.form {G : Nat → Option Obj} {v : Value} {ns : List ByteArray} {c : Nat} (h : Nd G v ns c) : ∃ T b, v = .iface T (.pointer (some ⟨b, 0, none⟩)) := by
 cases h with
 | ident b L tx hG h4 => exact ⟨_, b, rfl⟩
 | node T e sl hT b L hG ch hch ns c h => exact ⟨T, b, rfl⟩
theorem RowG.cells {w : World} {lo n cc : Nat} {ex : List Nat} {a : Option Addr} {vs : List Value} (h : RowG (Gx w lo ex) (.slice a n cc) vs) (hne : 0 < n) : ∃ b, a = some ⟨b, 0, none⟩ ∧ b < w.heap.size ∧ n ≤ cc ∧ cc ≤ maxLen ∧ vs.length = n ∧ ∀ i v, vs[i]? = some v → w.cell? ⟨b, i, none⟩ = some v := by
 obtain ⟨a', c', e, hc, hm, hr⟩ := h
 simp only [Value.slice.injEq] at e
 obtain ⟨rfl, rfl, rfl⟩ := e
 obtain ⟨b, cur, ty, rfl, hb, ht⟩ := hr (by intro h0; rw [h0] at hne; simp at hne)
 unfold Gx at hb
 split at hb
 · refine ⟨b, rfl, heap_lt hb, hc, hm, rfl, fun i v hv => ?_⟩
   have hl := (List.getElem?_eq_some_iff.1 hv).1
   have hk : Blk w b ty cur.toList := by unfold Blk; rw [hb]
   have hlen : vs.length ≤ cur.toList.length := by have := congrArg List.length ht; simp at this ⊢; omega
   rw [hk.cell i (by omega)]
   have e1 : vs[i]? = (cur.toList.take vs.length)[i]? := by rw [ht]
   rw [List.getElem?_take, if_pos hl] at e1
   rw [List.getD_eq_getElem?_getD, ← e1, hv]; rfl
 · cases hb
theorem Gx.below {w w' : World} {lo : Nat} {ex : List Nat} (hb : Below w.heap.size w w') : GLe (Gx w lo ex) (Gx w' lo ex) := Gx.le (Nat.le_refl _) fun b h1 h2 h3 => ⟨h3, hb.block b h2⟩
theorem pl_fin {H bm bi bf q lo b c : Nat} {ns : List ByteArray} {w w' : World} {T e : TypeId} {sl : List (Nat × Kd)} {L ch : List Value} (hT : (T, e, sl) ∈ tbl) (hs : Stp w.heap.size w w' bm bi bf bi bf) (hm : MK w' H bm bi bf q) (hx : Blk w' b e L) (hb : w.heap.size ≤ b) (hlo : lo ≤ w.heap.size) (h1 : bi < w.heap.size) (h2 : bf < w.heap.size) (hch : Ch (Gx w' lo [bi, bf]) L sl ch) (hn : Nds (Gx w' lo [bi, bf]) ch ns c) :
   PlPost H bm bi bf q lo (c + 1) ns w (.returned (.iface T (.pointer (some ⟨b, 0, none⟩)))) w' :=
 ⟨T, b, rfl, hs, hm, .node T e sl hT b L (Gx.of hx (by omega) (by simp; omega)) ch hch ns c hn⟩
set_option maxHeartbeats 3200000 in
theorem plain_k8 (H bm bi bf q lo cn : Nat) (ns : List ByteArray) (op vkd ub : Int) (tx vtx : ByteArray) (vnb : Bool) (ma ka sa pa la : Option Addr) (ml mc kn kc sn sc pn pc lc : Nat) (vs : List Value) (w : World) (h : MK w H bm bi bf q) (hlo : lo ≤ w.heap.size) (hrow : RowG (Gx w lo [bi, bf]) (.slice la 2 lc) vs) (hnds : Nds (Gx w lo [bi, bf]) vs ns cn) :
   Calls Tryz.prog 52 #[.pointer (some ⟨bm, 0, none⟩), .agg #[.int .i64 8, .int .i64 op, .string tx, .int .i64 vkd, .bool vnb, .slice ma ml mc, .int .u64 ub, .string vtx, .slice ka kn kc, .slice sa sn sc, .slice pa pn pc], .slice la 2 lc] w (PlPost H bm bi bf q lo (cn + 1) ns w) := by
 obtain ⟨g1, g2, g3, g4, g5, g6⟩ := h.lts
 obtain ⟨W0, hW0⟩ : ∃ W0, W0 = w.alloc (.cells #[.int .i64 8, .int .i64 op, .string tx, .int .i64 vkd, .bool vnb, .slice ma ml mc, .int .u64 ub, .string vtx, .slice ka kn kc, .slice sa sn sc, .slice pa pn pc] 75) := ⟨_, rfl⟩
 have hb0 : Below w.heap.size w W0 := by rw [hW0]; exact (Below.refl _ _).alloc (Nat.le_refl _) _
 have E0 : Blk W0 w.heap.size 75 [.int .i64 8, .int .i64 op, .string tx, .int .i64 vkd, .bool vnb, .slice ma ml mc, .int .u64 ub, .string vtx, .slice ka kn kc, .slice sa sn sc, .slice pa pn pc] := by rw [hW0]; exact Blk.new w _ _
 have HP := Li (pos_any H bm bi bf q W0 (h.below hb0))
 have HB0 := Li hb0
 have HE0 := Li E0
 have HM := Li h
 have HROW := Li hrow
 have HNDS := Li hnds
 clear hb0 E0 h hrow hnds
 subst hW0
 go_enter Tryz.func52, Tryz.ntmps52
 go_wp2_with fail
 refine HP.out.mono ?_
 rintro e w1 ⟨ln, rfl, hb1⟩
 have hs1 := hb1.size
 have hE1 := HE0.out.below hb1 HE0.out.lt
 obtain ⟨xb, hxb⟩ : ∃ xb, w1.heap.size = xb := ⟨_, rfl⟩
 have d0 := hE1.cell 0 (by simp)
 have d1 := hE1.cell 1 (by simp)
 have d2 := hE1.cell 2 (by simp)
 have hxw : w.heap.size < xb := by have := hE1.lt; omega
 have hbw : Below w.heap.size w w1 := HB0.out.trans (hb1.mono (by simp))
 obtain ⟨rb, rfl, hrb, hrc, hrm, hvl, hrow⟩ := HROW.out.cells (by omega)
 unfold maxLen at hrm
 match vs, hvl with
 | [v0, v1], _ =>
 have hnd := HNDS.out
 obtain ⟨T0, b0, rfl⟩ : ∃ T b, v0 = .iface T (.pointer (some ⟨b, 0, none⟩)) := by
   have hh := HNDS.out
   cases hh with
   | cons _ _ _ _ _ _ hh _ => exact hh.form
 have r0 := (hbw.cell (p := ⟨rb, 0, none⟩) hrb).trans (hrow 0 _ rfl)
 obtain ⟨T1, b1, rfl⟩ : ∃ T b, v1 = .iface T (.pointer (some ⟨b, 0, none⟩)) := by
   have hh := HNDS.out
   cases hh with
   | cons _ _ _ _ _ _ _ hh =>
   cases hh with
   | cons _ _ _ _ _ _ hh _ => exact hh.form
 have r1 := (hbw.cell (p := ⟨rb, 1, none⟩) hrb).trans (hrow 1 _ rfl)
 have hrl : rb < xb := by omega
 clear hrow hnd
 have FIN : Hid (PlPost H bm bi bf q lo (cn + 1) ns w (.returned (.iface 158 (.pointer (some ⟨xb + 1, 0, none⟩)))) ((w1.alloc (.cells #[.pointer (some ⟨bm, 0, none⟩), .int .i32 ln, .int .i32 1] 63)).alloc (.cells #[.pointer none, .iface T0 (.pointer (some ⟨b0, 0, none⟩)), .pointer (some ⟨bm, 0, none⟩), .int .i32 ln, .int .i32 1, .int .i8 51, .iface T1 (.pointer (some ⟨b1, 0, none⟩))] 160)).drew) := Li (by
   have hb : Below w.heap.size w ((w1.alloc (.cells #[.pointer (some ⟨bm, 0, none⟩), .int .i32 ln, .int .i32 1] 63)).alloc (.cells #[.pointer none, .iface T0 (.pointer (some ⟨b0, 0, none⟩)), .pointer (some ⟨bm, 0, none⟩), .int .i32 ln, .int .i32 1, .int .i8 51, .iface T1 (.pointer (some ⟨b1, 0, none⟩))] 160)).drew := ((hbw.alloc (by omega) _).alloc (by simp; omega) _).drew
   have hx : Blk ((w1.alloc (.cells #[.pointer (some ⟨bm, 0, none⟩), .int .i32 ln, .int .i32 1] 63)).alloc (.cells #[.pointer none, .iface T0 (.pointer (some ⟨b0, 0, none⟩)), .pointer (some ⟨bm, 0, none⟩), .int .i32 ln, .int .i32 1, .int .i8 51, .iface T1 (.pointer (some ⟨b1, 0, none⟩))] 160)).drew (xb + 1) 160 [.pointer none, .iface T0 (.pointer (some ⟨b0, 0, none⟩)), .pointer (some ⟨bm, 0, none⟩), .int .i32 ln, .int .i32 1, .int .i8 51, .iface T1 (.pointer (some ⟨b1, 0, none⟩))] := by
     have := Blk.new (w1.alloc (.cells #[.pointer (some ⟨bm, 0, none⟩), .int .i32 ln, .int .i32 1] 63)) 160 [.pointer none, .iface T0 (.pointer (some ⟨b0, 0, none⟩)), .pointer (some ⟨bm, 0, none⟩), .int .i32 ln, .int .i32 1, .int .i8 51, .iface T1 (.pointer (some ⟨b1, 0, none⟩))]
     rw [show (w1.alloc (.cells #[.pointer (some ⟨bm, 0, none⟩), .int .i32 ln, .int .i32 1] 63)).heap.size = xb + 1 by simp [hxb]] at this
     exact this
   have hn := HNDS.out.mono (Gx.below (lo := lo) (ex := [bi, bf]) hb)
   exact pl_fin (by simp [tbl]) (Stp.of_below hb) (HM.out.below hb) hx (by omega) hlo g5 g6 (.x 1 _ _ _ rfl (.x 6 _ _ _ rfl .nil)) hn)
 clear hb1 hE1 hbw hs1
 go_wp2_with fail
 go_region
 go_wp2_with fail
 go_ret
 exact FIN.out
set_option maxHeartbeats 3200000 in
theorem plain_k9 (H bm bi bf q lo cn : Nat) (ns : List ByteArray) (op vkd ub : Int) (tx vtx : ByteArray) (vnb : Bool) (ma ka sa pa la : Option Addr) (ml mc kn kc sn sc pn pc lc : Nat) (vs : List Value) (w : World) (h : MK w H bm bi bf q) (hlo : lo ≤ w.heap.size) (hrow : RowG (Gx w lo [bi, bf]) (.slice la 2 lc) vs) (hnds : Nds (Gx w lo [bi, bf]) vs ns cn) :
   Calls Tryz.prog 52 #[.pointer (some ⟨bm, 0, none⟩), .agg #[.int .i64 9, .int .i64 op, .string tx, .int .i64 vkd, .bool vnb, .slice ma ml mc, .int .u64 ub, .string vtx, .slice ka kn kc, .slice sa sn sc, .slice pa pn pc], .slice la 2 lc] w (PlPost H bm bi bf q lo (cn + 1) ns w) := by
 obtain ⟨g1, g2, g3, g4, g5, g6⟩ := h.lts
 obtain ⟨W0, hW0⟩ : ∃ W0, W0 = w.alloc (.cells #[.int .i64 9, .int .i64 op, .string tx, .int .i64 vkd, .bool vnb, .slice ma ml mc, .int .u64 ub, .string vtx, .slice ka kn kc, .slice sa sn sc, .slice pa pn pc] 75) := ⟨_, rfl⟩
 have hb0 : Below w.heap.size w W0 := by rw [hW0]; exact (Below.refl _ _).alloc (Nat.le_refl _) _
 have E0 : Blk W0 w.heap.size 75 [.int .i64 9, .int .i64 op, .string tx, .int .i64 vkd, .bool vnb, .slice ma ml mc, .int .u64 ub, .string vtx, .slice ka kn kc, .slice sa sn sc, .slice pa pn pc] := by rw [hW0]; exact Blk.new w _ _
 have HP := Li (pos_any H bm bi bf q W0 (h.below hb0))
 have HB0 := Li hb0
 have HE0 := Li E0
 have HM := Li h
 have HROW := Li hrow
 have HNDS := Li hnds
 clear hb0 E0 h hrow hnds
 subst hW0
 go_enter Tryz.func52, Tryz.ntmps52
 go_wp2_with fail
 refine HP.out.mono ?_
 rintro e w1 ⟨ln, rfl, hb1⟩
 have hs1 := hb1.size
 have hE1 := HE0.out.below hb1 HE0.out.lt
 obtain ⟨xb, hxb⟩ : ∃ xb, w1.heap.size = xb := ⟨_, rfl⟩
 have d0 := hE1.cell 0 (by simp)
 have d1 := hE1.cell 1 (by simp)
 have d2 := hE1.cell 2 (by simp)
 have hxw : w.heap.size < xb := by have := hE1.lt; omega
 have hbw : Below w.heap.size w w1 := HB0.out.trans (hb1.mono (by simp))
 obtain ⟨rb, rfl, hrb, hrc, hrm, hvl, hrow⟩ := HROW.out.cells (by omega)
 unfold maxLen at hrm
 match vs, hvl with
 | [v0, v1], _ =>
 have hnd := HNDS.out
 obtain ⟨T0, b0, rfl⟩ : ∃ T b, v0 = .iface T (.pointer (some ⟨b, 0, none⟩)) := by
   have hh := HNDS.out
   cases hh with
   | cons _ _ _ _ _ _ hh _ => exact hh.form
 have r0 := (hbw.cell (p := ⟨rb, 0, none⟩) hrb).trans (hrow 0 _ rfl)
 obtain ⟨T1, b1, rfl⟩ : ∃ T b, v1 = .iface T (.pointer (some ⟨b, 0, none⟩)) := by
   have hh := HNDS.out
   cases hh with
   | cons _ _ _ _ _ _ _ hh =>
   cases hh with
   | cons _ _ _ _ _ _ hh _ => exact hh.form
 have r1 := (hbw.cell (p := ⟨rb, 1, none⟩) hrb).trans (hrow 1 _ rfl)
 have hrl : rb < xb := by omega
 clear hrow hnd
 have FIN : Hid (PlPost H bm bi bf q lo (cn + 1) ns w (.returned (.iface 158 (.pointer (some ⟨xb + 1, 0, none⟩)))) ((w1.alloc (.cells #[.pointer (some ⟨bm, 0, none⟩), .int .i32 ln, .int .i32 1] 63)).alloc (.cells #[.pointer none, .iface T0 (.pointer (some ⟨b0, 0, none⟩)), .pointer (some ⟨bm, 0, none⟩), .int .i32 ln, .int .i32 1, .int .i8 64, .iface T1 (.pointer (some ⟨b1, 0, none⟩))] 160)).drew) := Li (by
   have hb : Below w.heap.size w ((w1.alloc (.cells #[.pointer (some ⟨bm, 0, none⟩), .int .i32 ln, .int .i32 1] 63)).alloc (.cells #[.pointer none, .iface T0 (.pointer (some ⟨b0, 0, none⟩)), .pointer (some ⟨bm, 0, none⟩), .int .i32 ln, .int .i32 1, .int .i8 64, .iface T1 (.pointer (some ⟨b1, 0, none⟩))] 160)).drew := ((hbw.alloc (by omega) _).alloc (by simp; omega) _).drew
   have hx : Blk ((w1.alloc (.cells #[.pointer (some ⟨bm, 0, none⟩), .int .i32 ln, .int .i32 1] 63)).alloc (.cells #[.pointer none, .iface T0 (.pointer (some ⟨b0, 0, none⟩)), .pointer (some ⟨bm, 0, none⟩), .int .i32 ln, .int .i32 1, .int .i8 64, .iface T1 (.pointer (some ⟨b1, 0, none⟩))] 160)).drew (xb + 1) 160 [.pointer none, .iface T0 (.pointer (some ⟨b0, 0, none⟩)), .pointer (some ⟨bm, 0, none⟩), .int .i32 ln, .int .i32 1, .int .i8 64, .iface T1 (.pointer (some ⟨b1, 0, none⟩))] := by
     have := Blk.new (w1.alloc (.cells #[.pointer (some ⟨bm, 0, none⟩), .int .i32 ln, .int .i32 1] 63)) 160 [.pointer none, .iface T0 (.pointer (some ⟨b0, 0, none⟩)), .pointer (some ⟨bm, 0, none⟩), .int .i32 ln, .int .i32 1, .int .i8 64, .iface T1 (.pointer (some ⟨b1, 0, none⟩))]
     rw [show (w1.alloc (.cells #[.pointer (some ⟨bm, 0, none⟩), .int .i32 ln, .int .i32 1] 63)).heap.size = xb + 1 by simp [hxb]] at this
     exact this
   have hn := HNDS.out.mono (Gx.below (lo := lo) (ex := [bi, bf]) hb)
   exact pl_fin (by simp [tbl]) (Stp.of_below hb) (HM.out.below hb) hx (by omega) hlo g5 g6 (.x 1 _ _ _ rfl (.x 6 _ _ _ rfl .nil)) hn)
 clear hb1 hE1 hbw hs1
 go_wp2_with fail
 go_region
 go_wp2_with fail
 go_ret
 exact FIN.out
set_option maxHeartbeats 3200000 in
theorem plain_k11 (H bm bi bf q lo cn : Nat) (ns : List ByteArray) (op vkd ub : Int) (tx vtx : ByteArray) (vnb : Bool) (ma ka sa pa la : Option Addr) (ml mc kn kc sn sc pn pc lc : Nat) (vs : List Value) (w : World) (h : MK w H bm bi bf q) (hlo : lo ≤ w.heap.size) (hrow : RowG (Gx w lo [bi, bf]) (.slice la 2 lc) vs) (hnds : Nds (Gx w lo [bi, bf]) vs ns cn) :
   Calls Tryz.prog 52 #[.pointer (some ⟨bm, 0, none⟩), .agg #[.int .i64 11, .int .i64 op, .string tx, .int .i64 vkd, .bool vnb, .slice ma ml mc, .int .u64 ub, .string vtx, .slice ka kn kc, .slice sa sn sc, .slice pa pn pc], .slice la 2 lc] w (PlPost H bm bi bf q lo (cn + 1) ns w) := by
 obtain ⟨g1, g2, g3, g4, g5, g6⟩ := h.lts
 obtain ⟨W0, hW0⟩ : ∃ W0, W0 = w.alloc (.cells #[.int .i64 11, .int .i64 op, .string tx, .int .i64 vkd, .bool vnb, .slice ma ml mc, .int .u64 ub, .string vtx, .slice ka kn kc, .slice sa sn sc, .slice pa pn pc] 75) := ⟨_, rfl⟩
 have hb0 : Below w.heap.size w W0 := by rw [hW0]; exact (Below.refl _ _).alloc (Nat.le_refl _) _
 have E0 : Blk W0 w.heap.size 75 [.int .i64 11, .int .i64 op, .string tx, .int .i64 vkd, .bool vnb, .slice ma ml mc, .int .u64 ub, .string vtx, .slice ka kn kc, .slice sa sn sc, .slice pa pn pc] := by rw [hW0]; exact Blk.new w _ _
 have HP := Li (pos_any H bm bi bf q W0 (h.below hb0))
 have HB0 := Li hb0
 have HE0 := Li E0
 have HM := Li h
 have HROW := Li hrow
 have HNDS := Li hnds
 clear hb0 E0 h hrow hnds
 subst hW0
 go_enter Tryz.func52, Tryz.ntmps52
 go_wp2_with fail
 refine HP.out.mono ?_
 rintro e w1 ⟨ln, rfl, hb1⟩
 have hs1 := hb1.size
 have hE1 := HE0.out.below hb1 HE0.out.lt
 obtain ⟨xb, hxb⟩ : ∃ xb, w1.heap.size = xb := ⟨_, rfl⟩
 have d0 := hE1.cell 0 (by simp)
 have d1 := hE1.cell 1 (by simp)
 have d2 := hE1.cell 2 (by simp)
 have hxw : w.heap.size < xb := by have := hE1.lt; omega
 have hbw : Below w.heap.size w w1 := HB0.out.trans (hb1.mono (by simp))
 obtain ⟨rb, rfl, hrb, hrc, hrm, hvl, hrow⟩ := HROW.out.cells (by omega)
 unfold maxLen at hrm
 match vs, hvl with
 | [v0, v1], _ =>
 have hnd := HNDS.out
 obtain ⟨T0, b0, rfl⟩ : ∃ T b, v0 = .iface T (.pointer (some ⟨b, 0, none⟩)) := by
   have hh := HNDS.out
   cases hh with
   | cons _ _ _ _ _ _ hh _ => exact hh.form
 have r0 := (hbw.cell (p := ⟨rb, 0, none⟩) hrb).trans (hrow 0 _ rfl)
 obtain ⟨T1, b1, rfl⟩ : ∃ T b, v1 = .iface T (.pointer (some ⟨b, 0, none⟩)) := by
   have hh := HNDS.out
   cases hh with
   | cons _ _ _ _ _ _ _ hh =>
   cases hh with
   | cons _ _ _ _ _ _ hh _ => exact hh.form
 have r1 := (hbw.cell (p := ⟨rb, 1, none⟩) hrb).trans (hrow 1 _ rfl)
 have hrl : rb < xb := by omega
 clear hrow hnd
 have FIN : Hid (PlPost H bm bi bf q lo (cn + 1) ns w (.returned (.iface 131 (.pointer (some ⟨xb + 1, 0, none⟩)))) ((w1.alloc (.cells #[.pointer (some ⟨bm, 0, none⟩), .int .i32 ln, .int .i32 1] 63)).alloc (.cells #[.pointer none, .iface T0 (.pointer (some ⟨b0, 0, none⟩)), .pointer (some ⟨bm, 0, none⟩), .int .i32 ln, .int .i32 1, .iface T1 (.pointer (some ⟨b1, 0, none⟩)), .pointer (some ⟨bm, 0, none⟩), .int .i32 ln, .int .i32 1] 133)).drew) := Li (by
   have hb : Below w.heap.size w ((w1.alloc (.cells #[.pointer (some ⟨bm, 0, none⟩), .int .i32 ln, .int .i32 1] 63)).alloc (.cells #[.pointer none, .iface T0 (.pointer (some ⟨b0, 0, none⟩)), .pointer (some ⟨bm, 0, none⟩), .int .i32 ln, .int .i32 1, .iface T1 (.pointer (some ⟨b1, 0, none⟩)), .pointer (some ⟨bm, 0, none⟩), .int .i32 ln, .int .i32 1] 133)).drew := ((hbw.alloc (by omega) _).alloc (by simp; omega) _).drew
   have hx : Blk ((w1.alloc (.cells #[.pointer (some ⟨bm, 0, none⟩), .int .i32 ln, .int .i32 1] 63)).alloc (.cells #[.pointer none, .iface T0 (.pointer (some ⟨b0, 0, none⟩)), .pointer (some ⟨bm, 0, none⟩), .int .i32 ln, .int .i32 1, .iface T1 (.pointer (some ⟨b1, 0, none⟩)), .pointer (some ⟨bm, 0, none⟩), .int .i32 ln, .int .i32 1] 133)).drew (xb + 1) 133 [.pointer none, .iface T0 (.pointer (some ⟨b0, 0, none⟩)), .pointer (some ⟨bm, 0, none⟩), .int .i32 ln, .int .i32 1, .iface T1 (.pointer (some ⟨b1, 0, none⟩)), .pointer (some ⟨bm, 0, none⟩), .int .i32 ln, .int .i32 1] := by
     have := Blk.new (w1.alloc (.cells #[.pointer (some ⟨bm, 0, none⟩), .int .i32 ln, .int .i32 1] 63)) 133 [.pointer none, .iface T0 (.pointer (some ⟨b0, 0, none⟩)), .pointer (some ⟨bm, 0, none⟩), .int .i32 ln, .int .i32 1, .iface T1 (.pointer (some ⟨b1, 0, none⟩)), .pointer (some ⟨bm, 0, none⟩), .int .i32 ln, .int .i32 1]
     rw [show (w1.alloc (.cells #[.pointer (some ⟨bm, 0, none⟩), .int .i32 ln, .int .i32 1] 63)).heap.size = xb + 1 by simp [hxb]] at this
     exact this
   have hn := HNDS.out.mono (Gx.below (lo := lo) (ex := [bi, bf]) hb)
   exact pl_fin (by simp [tbl]) (Stp.of_below hb) (HM.out.below hb) hx (by omega) hlo g5 g6 (.x 1 _ _ _ rfl (.x 5 _ _ _ rfl .nil)) hn)
 clear hb1 hE1 hbw hs1
 go_wp2_with fail
 go_region
 go_wp2_with fail
 go_ret
 exact FIN.out
set_option maxHeartbeats 3200000 in
theorem plain_k10 (H bm bi bf q lo cn : Nat) (ns : List ByteArray) (op vkd ub : Int) (tx vtx : ByteArray) (vnb : Bool) (ma ka sa pa la : Option Addr) (ml mc kn kc sn sc pn pc lc : Nat) (vs : List Value) (w : World) (h : MK w H bm bi bf q) (hlo : lo ≤ w.heap.size) (hrow : RowG (Gx w lo [bi, bf]) (.slice la 3 lc) vs) (hnds : Nds (Gx w lo [bi, bf]) vs ns cn) :
   Calls Tryz.prog 52 #[.pointer (some ⟨bm, 0, none⟩), .agg #[.int .i64 10, .int .i64 op, .string tx, .int .i64 vkd, .bool vnb, .slice ma ml mc, .int .u64 ub, .string vtx, .slice ka kn kc, .slice sa sn sc, .slice pa pn pc], .slice la 3 lc] w (PlPost H bm bi bf q lo (cn + 1) ns w) := by
 obtain ⟨g1, g2, g3, g4, g5, g6⟩ := h.lts
 obtain ⟨W0, hW0⟩ : ∃ W0, W0 = w.alloc (.cells #[.int .i64 10, .int .i64 op, .string tx, .int .i64 vkd, .bool vnb, .slice ma ml mc, .int .u64 ub, .string vtx, .slice ka kn kc, .slice sa sn sc, .slice pa pn pc] 75) := ⟨_, rfl⟩
 have hb0 : Below w.heap.size w W0 := by rw [hW0]; exact (Below.refl _ _).alloc (Nat.le_refl _) _
 have E0 : Blk W0 w.heap.size 75 [.int .i64 10, .int .i64 op, .string tx, .int .i64 vkd, .bool vnb, .slice ma ml mc, .int .u64 ub, .string vtx, .slice ka kn kc, .slice sa sn sc, .slice pa pn pc] := by rw [hW0]; exact Blk.new w _ _
 have HP := Li (pos_any H bm bi bf q W0 (h.below hb0))
 have HB0 := Li hb0
 have HE0 := Li E0
 have HM := Li h
 have HROW := Li hrow
 have HNDS := Li hnds
 clear hb0 E0 h hrow hnds
 subst hW0
 go_enter Tryz.func52, Tryz.ntmps52
 go_wp2_with fail
 refine HP.out.mono ?_
 rintro e w1 ⟨ln, rfl, hb1⟩
 have hs1 := hb1.size
 have hE1 := HE0.out.below hb1 HE0.out.lt
 obtain ⟨xb, hxb⟩ : ∃ xb, w1.heap.size = xb := ⟨_, rfl⟩
 have d0 := hE1.cell 0 (by simp)
 have d1 := hE1.cell 1 (by simp)
 have d2 := hE1.cell 2 (by simp)
 have hxw : w.heap.size < xb := by have := hE1.lt; omega
 have hbw : Below w.heap.size w w1 := HB0.out.trans (hb1.mono (by simp))
 obtain ⟨rb, rfl, hrb, hrc, hrm, hvl, hrow⟩ := HROW.out.cells (by omega)
 unfold maxLen at hrm
 match vs, hvl with
 | [v0, v1, v2], _ =>
 have hnd := HNDS.out
 obtain ⟨T0, b0, rfl⟩ : ∃ T b, v0 = .iface T (.pointer (some ⟨b, 0, none⟩)) := by
   have hh := HNDS.out
   cases hh with
   | cons _ _ _ _ _ _ hh _ => exact hh.form
 have r0 := (hbw.cell (p := ⟨rb, 0, none⟩) hrb).trans (hrow 0 _ rfl)
 obtain ⟨T1, b1, rfl⟩ : ∃ T b, v1 = .iface T (.pointer (some ⟨b, 0, none⟩)) := by
   have hh := HNDS.out
   cases hh with
   | cons _ _ _ _ _ _ _ hh =>
   cases hh with
   | cons _ _ _ _ _ _ hh _ => exact hh.form
 have r1 := (hbw.cell (p := ⟨rb, 1, none⟩) hrb).trans (hrow 1 _ rfl)
 obtain ⟨T2, b2, rfl⟩ : ∃ T b, v2 = .iface T (.pointer (some ⟨b, 0, none⟩)) := by
   have hh := HNDS.out
   cases hh with
   | cons _ _ _ _ _ _ _ hh =>
   cases hh with
   | cons _ _ _ _ _ _ _ hh =>
   cases hh with
   | cons _ _ _ _ _ _ hh _ => exact hh.form
 have r2 := (hbw.cell (p := ⟨rb, 2, none⟩) hrb).trans (hrow 2 _ rfl)
 have hrl : rb < xb := by omega
 clear hrow hnd
 have FIN : Hid (PlPost H bm bi bf q lo (cn + 1) ns w (.returned (.iface 128 (.pointer (some ⟨xb + 1, 0, none⟩)))) ((w1.alloc (.cells #[.pointer (some ⟨bm, 0, none⟩), .int .i32 ln, .int .i32 1] 63)).alloc (.cells #[.pointer none, .pointer (some ⟨bm, 0, none⟩), .int .i32 ln, .int .i32 1, .iface T0 (.pointer (some ⟨b0, 0, none⟩)), .iface T1 (.pointer (some ⟨b1, 0, none⟩)), .pointer (some ⟨bm, 0, none⟩), .int .i32 ln, .int .i32 1, .iface T2 (.pointer (some ⟨b2, 0, none⟩))] 130)).drew) := Li (by
   have hb : Below w.heap.size w ((w1.alloc (.cells #[.pointer (some ⟨bm, 0, none⟩), .int .i32 ln, .int .i32 1] 63)).alloc (.cells #[.pointer none, .pointer (some ⟨bm, 0, none⟩), .int .i32 ln, .int .i32 1, .iface T0 (.pointer (some ⟨b0, 0, none⟩)), .iface T1 (.pointer (some ⟨b1, 0, none⟩)), .pointer (some ⟨bm, 0, none⟩), .int .i32 ln, .int .i32 1, .iface T2 (.pointer (some ⟨b2, 0, none⟩))] 130)).drew := ((hbw.alloc (by omega) _).alloc (by simp; omega) _).drew
   have hx : Blk ((w1.alloc (.cells #[.pointer (some ⟨bm, 0, none⟩), .int .i32 ln, .int .i32 1] 63)).alloc (.cells #[.pointer none, .pointer (some ⟨bm, 0, none⟩), .int .i32 ln, .int .i32 1, .iface T0 (.pointer (some ⟨b0, 0, none⟩)), .iface T1 (.pointer (some ⟨b1, 0, none⟩)), .pointer (some ⟨bm, 0, none⟩), .int .i32 ln, .int .i32 1, .iface T2 (.pointer (some ⟨b2, 0, none⟩))] 130)).drew (xb + 1) 130 [.pointer none, .pointer (some ⟨bm, 0, none⟩), .int .i32 ln, .int .i32 1, .iface T0 (.pointer (some ⟨b0, 0, none⟩)), .iface T1 (.pointer (some ⟨b1, 0, none⟩)), .pointer (some ⟨bm, 0, none⟩), .int .i32 ln, .int .i32 1, .iface T2 (.pointer (some ⟨b2, 0, none⟩))] := by
     have := Blk.new (w1.alloc (.cells #[.pointer (some ⟨bm, 0, none⟩), .int .i32 ln, .int .i32 1] 63)) 130 [.pointer none, .pointer (some ⟨bm, 0, none⟩), .int .i32 ln, .int .i32 1, .iface T0 (.pointer (some ⟨b0, 0, none⟩)), .iface T1 (.pointer (some ⟨b1, 0, none⟩)), .pointer (some ⟨bm, 0, none⟩), .int .i32 ln, .int .i32 1, .iface T2 (.pointer (some ⟨b2, 0, none⟩))]
     rw [show (w1.alloc (.cells #[.pointer (some ⟨bm, 0, none⟩), .int .i32 ln, .int .i32 1] 63)).heap.size = xb + 1 by simp [hxb]] at this
     exact this
   have hn := HNDS.out.mono (Gx.below (lo := lo) (ex := [bi, bf]) hb)
   exact pl_fin (by simp [tbl]) (Stp.of_below hb) (HM.out.below hb) hx (by omega) hlo g5 g6 (.x 4 _ _ _ rfl (.x 5 _ _ _ rfl (.x 9 _ _ _ rfl .nil))) hn)
 clear hb1 hE1 hbw hs1
 go_wp2_with fail
 go_region
 go_wp2_with fail
 go_ret
 exact FIN.out
set_option maxHeartbeats 3200000 in
theorem plain_k23 (H bm bi bf q lo cn : Nat) (ns : List ByteArray) (op vkd ub : Int) (tx vtx : ByteArray) (vnb : Bool) (ma ka sa pa la : Option Addr) (ml mc kn kc sn sc pn pc lc : Nat) (vs : List Value) (w : World) (h : MK w H bm bi bf q) (hlo : lo ≤ w.heap.size) (hrow : RowG (Gx w lo [bi, bf]) (.slice la 1 lc) vs) (hnds : Nds (Gx w lo [bi, bf]) vs ns cn) :
   Calls Tryz.prog 52 #[.pointer (some ⟨bm, 0, none⟩), .agg #[.int .i64 23, .int .i64 op, .string tx, .int .i64 vkd, .bool vnb, .slice ma ml mc, .int .u64 ub, .string vtx, .slice ka kn kc, .slice sa sn sc, .slice pa pn pc], .slice la 1 lc] w (PlPost H bm bi bf q lo (cn + 1) ns w) := by
 obtain ⟨g1, g2, g3, g4, g5, g6⟩ := h.lts
 obtain ⟨W0, hW0⟩ : ∃ W0, W0 = w.alloc (.cells #[.int .i64 23, .int .i64 op, .string tx, .int .i64 vkd, .bool vnb, .slice ma ml mc, .int .u64 ub, .string vtx, .slice ka kn kc, .slice sa sn sc, .slice pa pn pc] 75) := ⟨_, rfl⟩
 have hb0 : Below w.heap.size w W0 := by rw [hW0]; exact (Below.refl _ _).alloc (Nat.le_refl _) _
 have E0 : Blk W0 w.heap.size 75 [.int .i64 23, .int .i64 op, .string tx, .int .i64 vkd, .bool vnb, .slice ma ml mc, .int .u64 ub, .string vtx, .slice ka kn kc, .slice sa sn sc, .slice pa pn pc] := by rw [hW0]; exact Blk.new w _ _
 have HP := Li (pos_any H bm bi bf q W0 (h.below hb0))
 have HB0 := Li hb0
 have HE0 := Li E0
 have HM := Li h
 have HROW := Li hrow
 have HNDS := Li hnds
 clear hb0 E0 h hrow hnds
 subst hW0
 go_enter Tryz.func52, Tryz.ntmps52
 go_wp2_with fail
 refine HP.out.mono ?_
 rintro e w1 ⟨ln, rfl, hb1⟩
 have hs1 := hb1.size
 have hE1 := HE0.out.below hb1 HE0.out.lt
 obtain ⟨xb, hxb⟩ : ∃ xb, w1.heap.size = xb := ⟨_, rfl⟩
 have d0 := hE1.cell 0 (by simp)
 have d1 := hE1.cell 1 (by simp)
 have d2 := hE1.cell 2 (by simp)
 have hxw : w.heap.size < xb := by have := hE1.lt; omega
 have hbw : Below w.heap.size w w1 := HB0.out.trans (hb1.mono (by simp))
 obtain ⟨rb, rfl, hrb, hrc, hrm, hvl, hrow⟩ := HROW.out.cells (by omega)
 unfold maxLen at hrm
 match vs, hvl with
 | [v0], _ =>
 have hnd := HNDS.out
 obtain ⟨T0, b0, rfl⟩ : ∃ T b, v0 = .iface T (.pointer (some ⟨b, 0, none⟩)) := by
   have hh := HNDS.out
   cases hh with
   | cons _ _ _ _ _ _ hh _ => exact hh.form
 have r0 := (hbw.cell (p := ⟨rb, 0, none⟩) hrb).trans (hrow 0 _ rfl)
 have hrl : rb < xb := by omega
 clear hrow hnd
 have FIN : Hid (PlPost H bm bi bf q lo (cn + 1) ns w (.returned (.iface 125 (.pointer (some ⟨xb + 1, 0, none⟩)))) ((w1.alloc (.cells #[.pointer (some ⟨bm, 0, none⟩), .int .i32 ln, .int .i32 1] 63)).alloc (.cells #[.pointer none, .pointer (some ⟨bm, 0, none⟩), .int .i32 ln, .int .i32 1, .iface T0 (.pointer (some ⟨b0, 0, none⟩)), .pointer (some ⟨bm, 0, none⟩), .int .i32 ln, .int .i32 1] 127)).drew) := Li (by
   have hb : Below w.heap.size w ((w1.alloc (.cells #[.pointer (some ⟨bm, 0, none⟩), .int .i32 ln, .int .i32 1] 63)).alloc (.cells #[.pointer none, .pointer (some ⟨bm, 0, none⟩), .int .i32 ln, .int .i32 1, .iface T0 (.pointer (some ⟨b0, 0, none⟩)), .pointer (some ⟨bm, 0, none⟩), .int .i32 ln, .int .i32 1] 127)).drew := ((hbw.alloc (by omega) _).alloc (by simp; omega) _).drew
   have hx : Blk ((w1.alloc (.cells #[.pointer (some ⟨bm, 0, none⟩), .int .i32 ln, .int .i32 1] 63)).alloc (.cells #[.pointer none, .pointer (some ⟨bm, 0, none⟩), .int .i32 ln, .int .i32 1, .iface T0 (.pointer (some ⟨b0, 0, none⟩)), .pointer (some ⟨bm, 0, none⟩), .int .i32 ln, .int .i32 1] 127)).drew (xb + 1) 127 [.pointer none, .pointer (some ⟨bm, 0, none⟩), .int .i32 ln, .int .i32 1, .iface T0 (.pointer (some ⟨b0, 0, none⟩)), .pointer (some ⟨bm, 0, none⟩), .int .i32 ln, .int .i32 1] := by
     have := Blk.new (w1.alloc (.cells #[.pointer (some ⟨bm, 0, none⟩), .int .i32 ln, .int .i32 1] 63)) 127 [.pointer none, .pointer (some ⟨bm, 0, none⟩), .int .i32 ln, .int .i32 1, .iface T0 (.pointer (some ⟨b0, 0, none⟩)), .pointer (some ⟨bm, 0, none⟩), .int .i32 ln, .int .i32 1]
     rw [show (w1.alloc (.cells #[.pointer (some ⟨bm, 0, none⟩), .int .i32 ln, .int .i32 1] 63)).heap.size = xb + 1 by simp [hxb]] at this
     exact this
   have hn := HNDS.out.mono (Gx.below (lo := lo) (ex := [bi, bf]) hb)
   exact pl_fin (by simp [tbl]) (Stp.of_below hb) (HM.out.below hb) hx (by omega) hlo g5 g6 (.x 4 _ _ _ rfl .nil) hn)
 clear hb1 hE1 hbw hs1
 go_wp2_with fail
 go_region
 go_wp2_with fail
 go_ret
 exact FIN.out
set_option maxHeartbeats 3200000 in
theorem plain_k3 (n : Nat) (H bm bi bf q lo cn : Nat) (ns : List ByteArray) (op vkd ub : Int) (tx vtx : ByteArray) (vnb : Bool) (ma ka sa pa la : Option Addr) (ml mc kn kc sn sc pn pc lc : Nat) (vs : List Value) (w : World) (h : MK w H bm bi bf q) (hlo : lo ≤ w.heap.size) (hrow : RowG (Gx w lo [bi, bf]) (.slice la n lc) vs) (hnds : Nds (Gx w lo [bi, bf]) vs ns cn) :
   Calls Tryz.prog 52 #[.pointer (some ⟨bm, 0, none⟩), .agg #[.int .i64 3, .int .i64 op, .string tx, .int .i64 vkd, .bool vnb, .slice ma ml mc, .int .u64 ub, .string vtx, .slice ka kn kc, .slice sa sn sc, .slice pa pn pc], .slice la n lc] w (PlPost H bm bi bf q lo (cn + 1) ns w) := by
 obtain ⟨g1, g2, g3, g4, g5, g6⟩ := h.lts
 obtain ⟨W0, hW0⟩ : ∃ W0, W0 = w.alloc (.cells #[.int .i64 3, .int .i64 op, .string tx, .int .i64 vkd, .bool vnb, .slice ma ml mc, .int .u64 ub, .string vtx, .slice ka kn kc, .slice sa sn sc, .slice pa pn pc] 75) := ⟨_, rfl⟩
 have hb0 : Below w.heap.size w W0 := by rw [hW0]; exact (Below.refl _ _).alloc (Nat.le_refl _) _
 have E0 : Blk W0 w.heap.size 75 [.int .i64 3, .int .i64 op, .string tx, .int .i64 vkd, .bool vnb, .slice ma ml mc, .int .u64 ub, .string vtx, .slice ka kn kc, .slice sa sn sc, .slice pa pn pc] := by rw [hW0]; exact Blk.new w _ _
 have HP := Li (pos_any H bm bi bf q W0 (h.below hb0))
 have HB0 := Li hb0
 have HE0 := Li E0
 have HM := Li h
 have HROW := Li hrow
 have HNDS := Li hnds
 clear hb0 E0 h hrow hnds
 subst hW0
 go_enter Tryz.func52, Tryz.ntmps52
 go_wp2_with fail
 refine HP.out.mono ?_
 rintro e w1 ⟨ln, rfl, hb1⟩
 have hs1 := hb1.size
 have hE1 := HE0.out.below hb1 HE0.out.lt
 obtain ⟨xb, hxb⟩ : ∃ xb, w1.heap.size = xb := ⟨_, rfl⟩
 have d0 := hE1.cell 0 (by simp)
 have d1 := hE1.cell 1 (by simp)
 have d2 := hE1.cell 2 (by simp)
 have hxw : w.heap.size < xb := by have := hE1.lt; omega
 have hbw : Below w.heap.size w w1 := HB0.out.trans (hb1.mono (by simp))
 have FIN : Hid (PlPost H bm bi bf q lo (cn + 1) ns w (.returned (.iface 122 (.pointer (some ⟨xb + 1, 0, none⟩)))) ((w1.alloc (.cells #[.pointer (some ⟨bm, 0, none⟩), .int .i32 ln, .int .i32 1] 63)).alloc (.cells #[.pointer none, .pointer (some ⟨bm, 0, none⟩), .int .i32 ln, .int .i32 1, .slice la n lc, .pointer (some ⟨bm, 0, none⟩), .int .i32 ln, .int .i32 1] 124))) := Li (by
   have hb : Below w.heap.size w ((w1.alloc (.cells #[.pointer (some ⟨bm, 0, none⟩), .int .i32 ln, .int .i32 1] 63)).alloc (.cells #[.pointer none, .pointer (some ⟨bm, 0, none⟩), .int .i32 ln, .int .i32 1, .slice la n lc, .pointer (some ⟨bm, 0, none⟩), .int .i32 ln, .int .i32 1] 124)) := (hbw.alloc (by omega) _).alloc (by simp; omega) _
   have hx : Blk ((w1.alloc (.cells #[.pointer (some ⟨bm, 0, none⟩), .int .i32 ln, .int .i32 1] 63)).alloc (.cells #[.pointer none, .pointer (some ⟨bm, 0, none⟩), .int .i32 ln, .int .i32 1, .slice la n lc, .pointer (some ⟨bm, 0, none⟩), .int .i32 ln, .int .i32 1] 124)) (xb + 1) 124 [.pointer none, .pointer (some ⟨bm, 0, none⟩), .int .i32 ln, .int .i32 1, .slice la n lc, .pointer (some ⟨bm, 0, none⟩), .int .i32 ln, .int .i32 1] := by
     have := Blk.new (w1.alloc (.cells #[.pointer (some ⟨bm, 0, none⟩), .int .i32 ln, .int .i32 1] 63)) 124 [.pointer none, .pointer (some ⟨bm, 0, none⟩), .int .i32 ln, .int .i32 1, .slice la n lc, .pointer (some ⟨bm, 0, none⟩), .int .i32 ln, .int .i32 1]
     rw [show (w1.alloc (.cells #[.pointer (some ⟨bm, 0, none⟩), .int .i32 ln, .int .i32 1] 63)).heap.size = xb + 1 by simp [hxb]] at this
     exact this
   have hn := HNDS.out.mono (Gx.below (lo := lo) (ex := [bi, bf]) hb)
   rw [← List.append_nil vs] at hn
   exact pl_fin (by simp [tbl]) (Stp.of_below hb) (HM.out.below hb) hx (by omega) hlo g5 g6 (.s 4 _ vs _ _ rfl (HROW.out.mono (Gx.below hb)) .nil) hn)
 clear hb1 hE1 hbw hs1
 go_wp2_with fail
 go_ret
 exact FIN.out
set_option maxHeartbeats 3200000 in
theorem plain_k4 (n : Nat) (H bm bi bf q lo cn : Nat) (ns : List ByteArray) (op vkd ub : Int) (tx vtx : ByteArray) (vnb : Bool) (ma ka sa pa la : Option Addr) (ml mc kn kc sn sc pn pc lc : Nat) (vs : List Value) (w : World) (h : MK w H bm bi bf q) (hlo : lo ≤ w.heap.size) (hrow : RowG (Gx w lo [bi, bf]) (.slice la n lc) vs) (hnds : Nds (Gx w lo [bi, bf]) vs ns cn) :
   Calls Tryz.prog 52 #[.pointer (some ⟨bm, 0, none⟩), .agg #[.int .i64 4, .int .i64 op, .string tx, .int .i64 vkd, .bool vnb, .slice ma ml mc, .int .u64 ub, .string vtx, .slice ka kn kc, .slice sa sn sc, .slice pa pn pc], .slice la n lc] w (PlPost H bm bi bf q lo (cn + 1) ns w) := by
 obtain ⟨g1, g2, g3, g4, g5, g6⟩ := h.lts
 obtain ⟨W0, hW0⟩ : ∃ W0, W0 = w.alloc (.cells #[.int .i64 4, .int .i64 op, .string tx, .int .i64 vkd, .bool vnb, .slice ma ml mc, .int .u64 ub, .string vtx, .slice ka kn kc, .slice sa sn sc, .slice pa pn pc] 75) := ⟨_, rfl⟩
 have hb0 : Below w.heap.size w W0 := by rw [hW0]; exact (Below.refl _ _).alloc (Nat.le_refl _) _
 have E0 : Blk W0 w.heap.size 75 [.int .i64 4, .int .i64 op, .string tx, .int .i64 vkd, .bool vnb, .slice ma ml mc, .int .u64 ub, .string vtx, .slice ka kn kc, .slice sa sn sc, .slice pa pn pc] := by rw [hW0]; exact Blk.new w _ _
 have HP := Li (pos_any H bm bi bf q W0 (h.below hb0))
 have HB0 := Li hb0
 have HE0 := Li E0
 have HM := Li h
 have HROW := Li hrow
 have HNDS := Li hnds
 clear hb0 E0 h hrow hnds
 subst hW0
 go_enter Tryz.func52, Tryz.ntmps52
 go_wp2_with fail
 refine HP.out.mono ?_
 rintro e w1 ⟨ln, rfl, hb1⟩
 have hs1 := hb1.size
 have hE1 := HE0.out.below hb1 HE0.out.lt
 obtain ⟨xb, hxb⟩ : ∃ xb, w1.heap.size = xb := ⟨_, rfl⟩
 have d0 := hE1.cell 0 (by simp)
 have d1 := hE1.cell 1 (by simp)
 have d2 := hE1.cell 2 (by simp)
 have hxw : w.heap.size < xb := by have := hE1.lt; omega
 have hbw : Below w.heap.size w w1 := HB0.out.trans (hb1.mono (by simp))
 have FIN : Hid (PlPost H bm bi bf q lo (cn + 1) ns w (.returned (.iface 149 (.pointer (some ⟨xb + 1, 0, none⟩)))) ((w1.alloc (.cells #[.pointer (some ⟨bm, 0, none⟩), .int .i32 ln, .int .i32 1] 63)).alloc (.cells #[.pointer none, .pointer (some ⟨bm, 0, none⟩), .int .i32 ln, .int .i32 1, .slice la n lc, .pointer (some ⟨bm, 0, none⟩), .int .i32 ln, .int .i32 1] 151))) := Li (by
   have hb : Below w.heap.size w ((w1.alloc (.cells #[.pointer (some ⟨bm, 0, none⟩), .int .i32 ln, .int .i32 1] 63)).alloc (.cells #[.pointer none, .pointer (some ⟨bm, 0, none⟩), .int .i32 ln, .int .i32 1, .slice la n lc, .pointer (some ⟨bm, 0, none⟩), .int .i32 ln, .int .i32 1] 151)) := (hbw.alloc (by omega) _).alloc (by simp; omega) _
   have hx : Blk ((w1.alloc (.cells #[.pointer (some ⟨bm, 0, none⟩), .int .i32 ln, .int .i32 1] 63)).alloc (.cells #[.pointer none, .pointer (some ⟨bm, 0, none⟩), .int .i32 ln, .int .i32 1, .slice la n lc, .pointer (some ⟨bm, 0, none⟩), .int .i32 ln, .int .i32 1] 151)) (xb + 1) 151 [.pointer none, .pointer (some ⟨bm, 0, none⟩), .int .i32 ln, .int .i32 1, .slice la n lc, .pointer (some ⟨bm, 0, none⟩), .int .i32 ln, .int .i32 1] := by
     have := Blk.new (w1.alloc (.cells #[.pointer (some ⟨bm, 0, none⟩), .int .i32 ln, .int .i32 1] 63)) 151 [.pointer none, .pointer (some ⟨bm, 0, none⟩), .int .i32 ln, .int .i32 1, .slice la n lc, .pointer (some ⟨bm, 0, none⟩), .int .i32 ln, .int .i32 1]
     rw [show (w1.alloc (.cells #[.pointer (some ⟨bm, 0, none⟩), .int .i32 ln, .int .i32 1] 63)).heap.size = xb + 1 by simp [hxb]] at this
     exact this
   have hn := HNDS.out.mono (Gx.below (lo := lo) (ex := [bi, bf]) hb)
   rw [← List.append_nil vs] at hn
   exact pl_fin (by simp [tbl]) (Stp.of_below hb) (HM.out.below hb) hx (by omega) hlo g5 g6 (.s 4 _ vs _ _ rfl (HROW.out.mono (Gx.below hb)) .nil) hn)
 clear hb1 hE1 hbw hs1
 go_wp2_with fail
 go_ret
 exact FIN.out
set_option maxHeartbeats 3200000 in
theorem plain_k13 (H bm bi bf q lo cn : Nat) (ns : List ByteArray) (op vkd ub : Int) (tx vtx : ByteArray) (vnb : Bool) (ma ka sa pa la : Option Addr) (ml mc kn kc sn sc pn pc lc : Nat) (vs : List Value) (w : World) (h : MK w H bm bi bf q) (hlo : lo ≤ w.heap.size) (hrow : RowG (Gx w lo [bi, bf]) (.slice la 1 lc) vs) (hnds : Nds (Gx w lo [bi, bf]) vs ns cn) :
   Calls Tryz.prog 52 #[.pointer (some ⟨bm, 0, none⟩), .agg #[.int .i64 13, .int .i64 op, .string tx, .int .i64 vkd, .bool vnb, .slice ma ml mc, .int .u64 ub, .string vtx, .slice ka kn kc, .slice sa sn sc, .slice pa pn pc], .slice la 1 lc] w (PlPost H bm bi bf q lo (cn + 2) (ns ++ [tx]) w) := by
 obtain ⟨g1, g2, g3, g4, g5, g6⟩ := h.lts
 obtain ⟨W0, hW0⟩ : ∃ W0, W0 = w.alloc (.cells #[.int .i64 13, .int .i64 op, .string tx, .int .i64 vkd, .bool vnb, .slice ma ml mc, .int .u64 ub, .string vtx, .slice ka kn kc, .slice sa sn sc, .slice pa pn pc] 75) := ⟨_, rfl⟩
 have hb0 : Below w.heap.size w W0 := by rw [hW0]; exact (Below.refl _ _).alloc (Nat.le_refl _) _
 have E0 : Blk W0 w.heap.size 75 [.int .i64 13, .int .i64 op, .string tx, .int .i64 vkd, .bool vnb, .slice ma ml mc, .int .u64 ub, .string vtx, .slice ka kn kc, .slice sa sn sc, .slice pa pn pc] := by rw [hW0]; exact Blk.new w _ _
 have HP := Li (pos_any H bm bi bf q W0 (h.below hb0))
 have HB0 := Li hb0
 have HE0 := Li E0
 have HM := Li h
 have HROW := Li hrow
 have HNDS := Li hnds
 clear hb0 E0 h hrow hnds
 subst hW0
 go_enter Tryz.func52, Tryz.ntmps52
 go_wp2_with fail
 refine HP.out.mono ?_
 rintro e w1 ⟨ln, rfl, hb1⟩
 have hs1 := hb1.size
 have hE1 := HE0.out.below hb1 HE0.out.lt
 obtain ⟨xb, hxb⟩ : ∃ xb, w1.heap.size = xb := ⟨_, rfl⟩
 have d0 := hE1.cell 0 (by simp)
 have d1 := hE1.cell 1 (by simp)
 have d2 := hE1.cell 2 (by simp)
 have hxw : w.heap.size < xb := by have := hE1.lt; omega
 have hbw : Below w.heap.size w w1 := HB0.out.trans (hb1.mono (by simp))
 obtain ⟨rb, rfl, hrb, hrc, hrm, hvl, hrow⟩ := HROW.out.cells (by omega)
 unfold maxLen at hrm
 match vs, hvl with
 | [v0], _ =>
 have hnd := HNDS.out
 obtain ⟨T0, b0, rfl⟩ : ∃ T b, v0 = .iface T (.pointer (some ⟨b, 0, none⟩)) := by
   have hh := HNDS.out
   cases hh with
   | cons _ _ _ _ _ _ hh _ => exact hh.form
 have r0 := (hbw.cell (p := ⟨rb, 0, none⟩) hrb).trans (hrow 0 _ rfl)
 have hrl : rb < xb := by omega
 clear hrow hnd
 have FIN : Hid (PlPost H bm bi bf q lo (cn + 2) (ns ++ [tx]) w (.returned (.iface 161 (.pointer (some ⟨xb + 2, 0, none⟩)))) (((w1.alloc (.cells #[.pointer (some ⟨bm, 0, none⟩), .int .i32 ln, .int .i32 1] 63)).alloc (.cells #[.pointer none, .pointer (some ⟨bm, 0, none⟩), .int .i32 ln, .int .i32 1, .string tx, .nilIface] 65)).alloc (.cells #[.pointer none, .iface T0 (.pointer (some ⟨b0, 0, none⟩)), .pointer (some ⟨bm, 0, none⟩), .int .i32 ln, .int .i32 1, .pointer (some ⟨bm, 0, none⟩), .int .i32 ln, .int .i32 1, .pointer (some ⟨xb + 1, 0, none⟩)] 163)).drew) := Li (by
   have hb : Below w.heap.size w (((w1.alloc (.cells #[.pointer (some ⟨bm, 0, none⟩), .int .i32 ln, .int .i32 1] 63)).alloc (.cells #[.pointer none, .pointer (some ⟨bm, 0, none⟩), .int .i32 ln, .int .i32 1, .string tx, .nilIface] 65)).alloc (.cells #[.pointer none, .iface T0 (.pointer (some ⟨b0, 0, none⟩)), .pointer (some ⟨bm, 0, none⟩), .int .i32 ln, .int .i32 1, .pointer (some ⟨bm, 0, none⟩), .int .i32 ln, .int .i32 1, .pointer (some ⟨xb + 1, 0, none⟩)] 163)).drew := (((hbw.alloc (by omega) _).alloc (by simp; omega) _).alloc (by simp; omega) _).drew
   have hx : Blk (((w1.alloc (.cells #[.pointer (some ⟨bm, 0, none⟩), .int .i32 ln, .int .i32 1] 63)).alloc (.cells #[.pointer none, .pointer (some ⟨bm, 0, none⟩), .int .i32 ln, .int .i32 1, .string tx, .nilIface] 65)).alloc (.cells #[.pointer none, .iface T0 (.pointer (some ⟨b0, 0, none⟩)), .pointer (some ⟨bm, 0, none⟩), .int .i32 ln, .int .i32 1, .pointer (some ⟨bm, 0, none⟩), .int .i32 ln, .int .i32 1, .pointer (some ⟨xb + 1, 0, none⟩)] 163)).drew (xb + 2) 163 [.pointer none, .iface T0 (.pointer (some ⟨b0, 0, none⟩)), .pointer (some ⟨bm, 0, none⟩), .int .i32 ln, .int .i32 1, .pointer (some ⟨bm, 0, none⟩), .int .i32 ln, .int .i32 1, .pointer (some ⟨xb + 1, 0, none⟩)] := by
     have := Blk.new ((w1.alloc (.cells #[.pointer (some ⟨bm, 0, none⟩), .int .i32 ln, .int .i32 1] 63)).alloc (.cells #[.pointer none, .pointer (some ⟨bm, 0, none⟩), .int .i32 ln, .int .i32 1, .string tx, .nilIface] 65)) 163 [.pointer none, .iface T0 (.pointer (some ⟨b0, 0, none⟩)), .pointer (some ⟨bm, 0, none⟩), .int .i32 ln, .int .i32 1, .pointer (some ⟨bm, 0, none⟩), .int .i32 ln, .int .i32 1, .pointer (some ⟨xb + 1, 0, none⟩)]
     rw [show ((w1.alloc (.cells #[.pointer (some ⟨bm, 0, none⟩), .int .i32 ln, .int .i32 1] 63)).alloc (.cells #[.pointer none, .pointer (some ⟨bm, 0, none⟩), .int .i32 ln, .int .i32 1, .string tx, .nilIface] 65)).heap.size = xb + 2 by simp [hxb]] at this
     exact this
   have hi : Blk (((w1.alloc (.cells #[.pointer (some ⟨bm, 0, none⟩), .int .i32 ln, .int .i32 1] 63)).alloc (.cells #[.pointer none, .pointer (some ⟨bm, 0, none⟩), .int .i32 ln, .int .i32 1, .string tx, .nilIface] 65)).alloc (.cells #[.pointer none, .iface T0 (.pointer (some ⟨b0, 0, none⟩)), .pointer (some ⟨bm, 0, none⟩), .int .i32 ln, .int .i32 1, .pointer (some ⟨bm, 0, none⟩), .int .i32 ln, .int .i32 1, .pointer (some ⟨xb + 1, 0, none⟩)] 163)).drew (xb + 1) 65 [.pointer none, .pointer (some ⟨bm, 0, none⟩), .int .i32 ln, .int .i32 1, .string tx, .nilIface] := by
     have := Blk.new (w1.alloc (.cells #[.pointer (some ⟨bm, 0, none⟩), .int .i32 ln, .int .i32 1] 63)) 65 [.pointer none, .pointer (some ⟨bm, 0, none⟩), .int .i32 ln, .int .i32 1, .string tx, .nilIface]
     rw [show (w1.alloc (.cells #[.pointer (some ⟨bm, 0, none⟩), .int .i32 ln, .int .i32 1] 63)).heap.size = xb + 1 by simp [hxb]] at this
     exact this.alloc _
   have hn := (HNDS.out.mono (Gx.below (lo := lo) (ex := [bi, bf]) hb)).append (Nds.one (.ident (xb + 1) _ tx (Gx.of hi (by omega) (by simp; omega)) rfl))
   exact pl_fin (by simp [tbl]) (Stp.of_below hb) (HM.out.below hb) hx (by omega) hlo g5 g6 (.x 1 _ _ _ rfl (.n 8 _ _ _ rfl .nil)) hn)
 clear hb1 hE1 hbw hs1
 go_wp2_with fail
 go_region
 go_wp2_with fail
 go_ret
 exact FIN.out
set_option maxHeartbeats 3200000 in
theorem plain_k6 (H bm bi bf q lo cn : Nat) (ns : List ByteArray) (op vkd ub : Int) (tx vtx : ByteArray) (vnb : Bool) (ma ka sa pa la : Option Addr) (ml mc kn kc sn sc pn pc lc : Nat) (vs : List Value) (w : World) (h : MK w H bm bi bf q) (hlo : lo ≤ w.heap.size) (hrow : RowG (Gx w lo [bi, bf]) (.slice la 1 lc) vs) (hnds : Nds (Gx w lo [bi, bf]) vs ns cn) (hbl : bm < lo) (ho1 : 19 ≤ op) (ho2 : op ≤ 22) :
   Calls Tryz.prog 52 #[.pointer (some ⟨bm, 0, none⟩), .agg #[.int .i64 6, .int .i64 op, .string tx, .int .i64 vkd, .bool vnb, .slice ma ml mc, .int .u64 ub, .string vtx, .slice ka kn kc, .slice sa sn sc, .slice pa pn pc], .slice la 1 lc] w (PlPost H bm bi bf q lo (cn + 1) ns w) := by
 obtain ⟨g1, g2, g3, g4, g5, g6⟩ := h.lts
 obtain ⟨W0, hW0⟩ : ∃ W0, W0 = w.alloc (.cells #[.int .i64 6, .int .i64 op, .string tx, .int .i64 vkd, .bool vnb, .slice ma ml mc, .int .u64 ub, .string vtx, .slice ka kn kc, .slice sa sn sc, .slice pa pn pc] 75) := ⟨_, rfl⟩
 have hb0 : Below w.heap.size w W0 := by rw [hW0]; exact (Below.refl _ _).alloc (Nat.le_refl _) _
 have E0 : Blk W0 w.heap.size 75 [.int .i64 6, .int .i64 op, .string tx, .int .i64 vkd, .bool vnb, .slice ma ml mc, .int .u64 ub, .string vtx, .slice ka kn kc, .slice sa sn sc, .slice pa pn pc] := by rw [hW0]; exact Blk.new w _ _
 have HP := Li (pos_any H bm bi bf q W0 (h.below hb0))
 have HB0 := Li hb0
 have HE0 := Li E0
 have HM := Li h
 have HROW := Li hrow
 have HNDS := Li hnds
 clear hb0 E0 h hrow hnds
 subst hW0
 go_enter Tryz.func52, Tryz.ntmps52
 go_wp2_with fail
 refine HP.out.mono ?_
 rintro e w1 ⟨ln, rfl, hb1⟩
 have hs1 := hb1.size
 have hE1 := HE0.out.below hb1 HE0.out.lt
 obtain ⟨xb, hxb⟩ : ∃ xb, w1.heap.size = xb := ⟨_, rfl⟩
 have d0 := hE1.cell 0 (by simp)
 have d1 := hE1.cell 1 (by simp)
 have d2 := hE1.cell 2 (by simp)
 have hxw : w.heap.size < xb := by have := hE1.lt; omega
 have hbw : Below w.heap.size w w1 := HB0.out.trans (hb1.mono (by simp))
 have hpos : Blk (w1.alloc (.cells #[.pointer (some ⟨bm, 0, none⟩), .int .i32 ln, .int .i32 1] 63)) xb 63 [.pointer (some ⟨bm, 0, none⟩), .int .i32 ln, .int .i32 1] := by rw [← hxb]; exact Blk.new w1 _ _
 have hE2 : Blk (w1.alloc (.cells #[.pointer (some ⟨bm, 0, none⟩), .int .i32 ln, .int .i32 1] 63)) w.heap.size 75 [.int .i64 6, .int .i64 op, .string tx, .int .i64 vkd, .bool vnb, .slice ma ml mc, .int .u64 ub, .string vtx, .slice ka kn kc, .slice sa sn sc, .slice pa pn pc] := hE1.alloc _
 have hb2 : Below w.heap.size w (w1.alloc (.cells #[.pointer (some ⟨bm, 0, none⟩), .int .i32 ln, .int .i32 1] 63)) := hbw.alloc (by omega) _
 have hsz2 : (w1.alloc (.cells #[.pointer (some ⟨bm, 0, none⟩), .int .i32 ln, .int .i32 1] 63)).heap.size = xb + 1 := by simp [hxb]
 have HPOS := Li hpos
 have HE2 := Li hE2
 have HB2 := Li hb2
 have HSZ2 := Li hsz2
 clear hb1 hE1 hbw hs1 hpos hE2 hb2 hsz2
 have CT := Li (fun W => unary_any op W ho1 ho2)
 go_wp2_with fail
 refine (CT.out _).mono ?_
 rintro e w2 ⟨tk, rfl, hb3⟩
 have HPOS := Li (HPOS.out.below hb3 HPOS.out.lt)
 have HE2 := Li (HE2.out.below hb3 HE2.out.lt)
 have HB2 := Li (HB2.out.trans (hb3.mono (by have := HSZ2.out; omega)))
 have hz2 : xb + 1 ≤ w2.heap.size := by have := hb3.size; have := HSZ2.out; omega
 clear hb3
 have WT := Li (want_any H bm bi bf q w2 (HM.out.below HB2.out))
 go_wp2_with fail
 refine WT.out.mono ?_
 rintro e w3 ⟨rfl, hs3, hm3⟩
 obtain ⟨hp3, _, _⟩ := hs3.blk HPOS.out (by omega) (by omega) (by omega) (by omega)
 have z3 := hs3.size
 have p0 := hp3.cell 0 (by simp)
 have p1 := hp3.cell 1 (by simp)
 have p2 := hp3.cell 2 (by simp)
 have pl := hp3.lt
 have hst : Stp w.heap.size w w3 bm bi bf bi bf := (Stp.of_below HB2.out).trans (hs3.mono (by omega))
 have HROW3 := Li (HROW.out.mono (Gx.stp hst hbl []))
 have HNDS3 := Li (HNDS.out.mono (Gx.stp hst hbl []))
 obtain ⟨nb, hnb⟩ : ∃ nb, w3.heap.size = nb := ⟨_, rfl⟩
 obtain ⟨rb, rfl, hrb, hrc, hrm, hvl, hrow⟩ := HROW3.out.cells (by omega)
 unfold maxLen at hrm
 match vs, hvl with
 | [v0], _ =>
 have hnd := HNDS.out
 obtain ⟨T0, b0, rfl⟩ : ∃ T b, v0 = .iface T (.pointer (some ⟨b, 0, none⟩)) := by
   have hh := HNDS.out
   cases hh with
   | cons _ _ _ _ _ _ hh _ => exact hh.form
 have r0 := hrow 0 _ rfl
 have hrl : rb < nb := by omega
 clear hrow hnd
 have hxl : xb < nb := by omega
 have FIN : Hid (PlPost H bm bi bf q lo (cn + 1) ns w (.returned (.iface 155 (.pointer (some ⟨nb, 0, none⟩)))) (w3.alloc (.cells #[.pointer none, .pointer (some ⟨bm, 0, none⟩), .int .i32 ln, .int .i32 1, .int .i8 tk, .iface T0 (.pointer (some ⟨b0, 0, none⟩))] 157)).drew) := Li (by
   have hb : Below w3.heap.size w3 (w3.alloc (.cells #[.pointer none, .pointer (some ⟨bm, 0, none⟩), .int .i32 ln, .int .i32 1, .int .i8 tk, .iface T0 (.pointer (some ⟨b0, 0, none⟩))] 157)).drew := ((Below.refl _ _).alloc (Nat.le_refl _) _).drew
   have hx : Blk (w3.alloc (.cells #[.pointer none, .pointer (some ⟨bm, 0, none⟩), .int .i32 ln, .int .i32 1, .int .i8 tk, .iface T0 (.pointer (some ⟨b0, 0, none⟩))] 157)).drew nb 157 [.pointer none, .pointer (some ⟨bm, 0, none⟩), .int .i32 ln, .int .i32 1, .int .i8 tk, .iface T0 (.pointer (some ⟨b0, 0, none⟩))] := by rw [← hnb]; exact Blk.new w3 _ _
   exact pl_fin (by simp [tbl]) (hst.trans (Stp.of_below (hb.mono (by omega)))) (hm3.below hb) hx (by omega) hlo g5 g6 (.some 5 _ _ _ rfl .nil) (HNDS3.out.mono (Gx.below hb)))
 clear hs3 hm3 hp3 hst
 go_wp2_with fail
 go_region
 go_wp2_with fail
 go_ret
 exact FIN.out
set_option maxHeartbeats 3200000 in
theorem plain_k7a (H bm bi bf q lo cn : Nat) (ns : List ByteArray) (op vkd ub : Int) (tx vtx : ByteArray) (vnb : Bool) (ma ka sa pa la : Option Addr) (ml mc kn kc sn sc pn pc lc : Nat) (vs : List Value) (w : World) (h : MK w H bm bi bf q) (hlo : lo ≤ w.heap.size) (hrow : RowG (Gx w lo [bi, bf]) (.slice la 2 lc) vs) (hnds : Nds (Gx w lo [bi, bf]) vs ns cn) (hbl : bm < lo) (ho1 : 0 ≤ op) (ho2 : op ≤ 12) :
   Calls Tryz.prog 52 #[.pointer (some ⟨bm, 0, none⟩), .agg #[.int .i64 7, .int .i64 op, .string tx, .int .i64 vkd, .bool vnb, .slice ma ml mc, .int .u64 ub, .string vtx, .slice ka kn kc, .slice sa sn sc, .slice pa pn pc], .slice la 2 lc] w (PlPost H bm bi bf q lo (cn + 1) ns w) := by
 obtain ⟨g1, g2, g3, g4, g5, g6⟩ := h.lts
 obtain ⟨W0, hW0⟩ : ∃ W0, W0 = w.alloc (.cells #[.int .i64 7, .int .i64 op, .string tx, .int .i64 vkd, .bool vnb, .slice ma ml mc, .int .u64 ub, .string vtx, .slice ka kn kc, .slice sa sn sc, .slice pa pn pc] 75) := ⟨_, rfl⟩
 have hb0 : Below w.heap.size w W0 := by rw [hW0]; exact (Below.refl _ _).alloc (Nat.le_refl _) _
 have E0 : Blk W0 w.heap.size 75 [.int .i64 7, .int .i64 op, .string tx, .int .i64 vkd, .bool vnb, .slice ma ml mc, .int .u64 ub, .string vtx, .slice ka kn kc, .slice sa sn sc, .slice pa pn pc] := by rw [hW0]; exact Blk.new w _ _
 have HP := Li (pos_any H bm bi bf q W0 (h.below hb0))
 have HB0 := Li hb0
 have HE0 := Li E0
 have HM := Li h
 have HROW := Li hrow
 have HNDS := Li hnds
 clear hb0 E0 h hrow hnds
 subst hW0
 go_enter Tryz.func52, Tryz.ntmps52
 go_wp2_with fail
 refine HP.out.mono ?_
 rintro e w1 ⟨ln, rfl, hb1⟩
 have hs1 := hb1.size
 have hE1 := HE0.out.below hb1 HE0.out.lt
 obtain ⟨xb, hxb⟩ : ∃ xb, w1.heap.size = xb := ⟨_, rfl⟩
 have d0 := hE1.cell 0 (by simp)
 have d1 := hE1.cell 1 (by simp)
 have d2 := hE1.cell 2 (by simp)
 have hxw : w.heap.size < xb := by have := hE1.lt; omega
 have hbw : Below w.heap.size w w1 := HB0.out.trans (hb1.mono (by simp))
 have hpos : Blk (w1.alloc (.cells #[.pointer (some ⟨bm, 0, none⟩), .int .i32 ln, .int .i32 1] 63)) xb 63 [.pointer (some ⟨bm, 0, none⟩), .int .i32 ln, .int .i32 1] := by rw [← hxb]; exact Blk.new w1 _ _
 have hE2 : Blk (w1.alloc (.cells #[.pointer (some ⟨bm, 0, none⟩), .int .i32 ln, .int .i32 1] 63)) w.heap.size 75 [.int .i64 7, .int .i64 op, .string tx, .int .i64 vkd, .bool vnb, .slice ma ml mc, .int .u64 ub, .string vtx, .slice ka kn kc, .slice sa sn sc, .slice pa pn pc] := hE1.alloc _
 have hb2 : Below w.heap.size w (w1.alloc (.cells #[.pointer (some ⟨bm, 0, none⟩), .int .i32 ln, .int .i32 1] 63)) := hbw.alloc (by omega) _
 have hsz2 : (w1.alloc (.cells #[.pointer (some ⟨bm, 0, none⟩), .int .i32 ln, .int .i32 1] 63)).heap.size = xb + 1 := by simp [hxb]
 have HPOS := Li hpos
 have HE2 := Li hE2
 have HB2 := Li hb2
 have HSZ2 := Li hsz2
 clear hb1 hE1 hbw hs1 hpos hE2 hb2 hsz2
 have CT := Li (fun W => binary_yes op W ho1 ho2)
 go_wp2_with fail
 refine (CT.out _).mono ?_
 rintro e w2 ⟨tk, rfl, hb3⟩
 have HPOS := Li (HPOS.out.below hb3 HPOS.out.lt)
 have HE2 := Li (HE2.out.below hb3 HE2.out.lt)
 have HB2 := Li (HB2.out.trans (hb3.mono (by have := HSZ2.out; omega)))
 have hz2 : xb + 1 ≤ w2.heap.size := by have := hb3.size; have := HSZ2.out; omega
 clear hb3
 have WT := Li (want_any H bm bi bf q w2 (HM.out.below HB2.out))
 go_wp2_with fail
 refine WT.out.mono ?_
 rintro e w3 ⟨rfl, hs3, hm3⟩
 obtain ⟨hp3, _, _⟩ := hs3.blk HPOS.out (by omega) (by omega) (by omega) (by omega)
 have z3 := hs3.size
 have p0 := hp3.cell 0 (by simp)
 have p1 := hp3.cell 1 (by simp)
 have p2 := hp3.cell 2 (by simp)
 have pl := hp3.lt
 have hst : Stp w.heap.size w w3 bm bi bf bi bf := (Stp.of_below HB2.out).trans (hs3.mono (by omega))
 have HROW3 := Li (HROW.out.mono (Gx.stp hst hbl []))
 have HNDS3 := Li (HNDS.out.mono (Gx.stp hst hbl []))
 obtain ⟨nb, hnb⟩ : ∃ nb, w3.heap.size = nb := ⟨_, rfl⟩
 obtain ⟨rb, rfl, hrb, hrc, hrm, hvl, hrow⟩ := HROW3.out.cells (by omega)
 unfold maxLen at hrm
 match vs, hvl with
 | [v0, v1], _ =>
 have hnd := HNDS.out
 obtain ⟨T0, b0, rfl⟩ : ∃ T b, v0 = .iface T (.pointer (some ⟨b, 0, none⟩)) := by
   have hh := HNDS.out
   cases hh with
   | cons _ _ _ _ _ _ hh _ => exact hh.form
 have r0 := hrow 0 _ rfl
 obtain ⟨T1, b1, rfl⟩ : ∃ T b, v1 = .iface T (.pointer (some ⟨b, 0, none⟩)) := by
   have hh := HNDS.out
   cases hh with
   | cons _ _ _ _ _ _ _ hh =>
   cases hh with
   | cons _ _ _ _ _ _ hh _ => exact hh.form
 have r1 := hrow 1 _ rfl
 have hrl : rb < nb := by omega
 clear hrow hnd
 have hxl : xb < nb := by omega
 have FIN : Hid (PlPost H bm bi bf q lo (cn + 1) ns w (.returned (.iface 158 (.pointer (some ⟨nb, 0, none⟩)))) (w3.alloc (.cells #[.pointer none, .iface T0 (.pointer (some ⟨b0, 0, none⟩)), .pointer (some ⟨bm, 0, none⟩), .int .i32 ln, .int .i32 1, .int .i8 tk, .iface T1 (.pointer (some ⟨b1, 0, none⟩))] 160)).drew) := Li (by
   have hb : Below w3.heap.size w3 (w3.alloc (.cells #[.pointer none, .iface T0 (.pointer (some ⟨b0, 0, none⟩)), .pointer (some ⟨bm, 0, none⟩), .int .i32 ln, .int .i32 1, .int .i8 tk, .iface T1 (.pointer (some ⟨b1, 0, none⟩))] 160)).drew := ((Below.refl _ _).alloc (Nat.le_refl _) _).drew
   have hx : Blk (w3.alloc (.cells #[.pointer none, .iface T0 (.pointer (some ⟨b0, 0, none⟩)), .pointer (some ⟨bm, 0, none⟩), .int .i32 ln, .int .i32 1, .int .i8 tk, .iface T1 (.pointer (some ⟨b1, 0, none⟩))] 160)).drew nb 160 [.pointer none, .iface T0 (.pointer (some ⟨b0, 0, none⟩)), .pointer (some ⟨bm, 0, none⟩), .int .i32 ln, .int .i32 1, .int .i8 tk, .iface T1 (.pointer (some ⟨b1, 0, none⟩))] := by rw [← hnb]; exact Blk.new w3 _ _
   exact pl_fin (by simp [tbl]) (hst.trans (Stp.of_below (hb.mono (by omega)))) (hm3.below hb) hx (by omega) hlo g5 g6 (.x 1 _ _ _ rfl (.x 6 _ _ _ rfl .nil)) (HNDS3.out.mono (Gx.below hb)))
 clear hs3 hm3 hp3 hst
 go_wp2_with fail
 go_region
 go_wp2_with fail
 go_ret
 exact FIN.out
set_option maxHeartbeats 3200000 in
theorem plain_k7b (H bm bi bf q lo cn : Nat) (ns : List ByteArray) (op vkd ub : Int) (tx vtx : ByteArray) (vnb : Bool) (ma ka sa pa la : Option Addr) (ml mc kn kc sn sc pn pc lc : Nat) (vs : List Value) (w : World) (h : MK w H bm bi bf q) (hlo : lo ≤ w.heap.size) (hrow : RowG (Gx w lo [bi, bf]) (.slice la 2 lc) vs) (hnds : Nds (Gx w lo [bi, bf]) vs ns cn) (hbl : bm < lo) (ho1 : 13 ≤ op) (ho2 : op ≤ 18) :
   Calls Tryz.prog 52 #[.pointer (some ⟨bm, 0, none⟩), .agg #[.int .i64 7, .int .i64 op, .string tx, .int .i64 vkd, .bool vnb, .slice ma ml mc, .int .u64 ub, .string vtx, .slice ka kn kc, .slice sa sn sc, .slice pa pn pc], .slice la 2 lc] w (PlPost H bm bi bf q lo (cn + 1) ns w) := by
 obtain ⟨g1, g2, g3, g4, g5, g6⟩ := h.lts
 obtain ⟨W0, hW0⟩ : ∃ W0, W0 = w.alloc (.cells #[.int .i64 7, .int .i64 op, .string tx, .int .i64 vkd, .bool vnb, .slice ma ml mc, .int .u64 ub, .string vtx, .slice ka kn kc, .slice sa sn sc, .slice pa pn pc] 75) := ⟨_, rfl⟩
 have hb0 : Below w.heap.size w W0 := by rw [hW0]; exact (Below.refl _ _).alloc (Nat.le_refl _) _
 have E0 : Blk W0 w.heap.size 75 [.int .i64 7, .int .i64 op, .string tx, .int .i64 vkd, .bool vnb, .slice ma ml mc, .int .u64 ub, .string vtx, .slice ka kn kc, .slice sa sn sc, .slice pa pn pc] := by rw [hW0]; exact Blk.new w _ _
 have HP := Li (pos_any H bm bi bf q W0 (h.below hb0))
 have HB0 := Li hb0
 have HE0 := Li E0
 have HM := Li h
 have HROW := Li hrow
 have HNDS := Li hnds
 clear hb0 E0 h hrow hnds
 subst hW0
 go_enter Tryz.func52, Tryz.ntmps52
 go_wp2_with fail
 refine HP.out.mono ?_
 rintro e w1 ⟨ln, rfl, hb1⟩
 have hs1 := hb1.size
 have hE1 := HE0.out.below hb1 HE0.out.lt
 obtain ⟨xb, hxb⟩ : ∃ xb, w1.heap.size = xb := ⟨_, rfl⟩
 have d0 := hE1.cell 0 (by simp)
 have d1 := hE1.cell 1 (by simp)
 have d2 := hE1.cell 2 (by simp)
 have hxw : w.heap.size < xb := by have := hE1.lt; omega
 have hbw : Below w.heap.size w w1 := HB0.out.trans (hb1.mono (by simp))
 have hpos : Blk (w1.alloc (.cells #[.pointer (some ⟨bm, 0, none⟩), .int .i32 ln, .int .i32 1] 63)) xb 63 [.pointer (some ⟨bm, 0, none⟩), .int .i32 ln, .int .i32 1] := by rw [← hxb]; exact Blk.new w1 _ _
 have hE2 : Blk (w1.alloc (.cells #[.pointer (some ⟨bm, 0, none⟩), .int .i32 ln, .int .i32 1] 63)) w.heap.size 75 [.int .i64 7, .int .i64 op, .string tx, .int .i64 vkd, .bool vnb, .slice ma ml mc, .int .u64 ub, .string vtx, .slice ka kn kc, .slice sa sn sc, .slice pa pn pc] := hE1.alloc _
 have hb2 : Below w.heap.size w (w1.alloc (.cells #[.pointer (some ⟨bm, 0, none⟩), .int .i32 ln, .int .i32 1] 63)) := hbw.alloc (by omega) _
 have hsz2 : (w1.alloc (.cells #[.pointer (some ⟨bm, 0, none⟩), .int .i32 ln, .int .i32 1] 63)).heap.size = xb + 1 := by simp [hxb]
 have HPOS := Li hpos
 have HE2 := Li hE2
 have HB2 := Li hb2
 have HSZ2 := Li hsz2
 clear hb1 hE1 hbw hs1 hpos hE2 hb2 hsz2
 have CT := Li (fun W => binary_no op W ho1 ho2)
 go_wp2_with fail
 refine (CT.out _).mono ?_
 rintro e w2 ⟨tk, rfl, hb3⟩
 have HPOS := Li (HPOS.out.below hb3 HPOS.out.lt)
 have HE2 := Li (HE2.out.below hb3 HE2.out.lt)
 have HB2 := Li (HB2.out.trans (hb3.mono (by have := HSZ2.out; omega)))
 have hz2 : xb + 1 ≤ w2.heap.size := by have := hb3.size; have := HSZ2.out; omega
 clear hb3
 have CT2 := Li (fun W => comparing_any op W ho1 ho2)
 have d0 := HE2.out.cell 0 (by simp)
 have d1 := HE2.out.cell 1 (by simp)
 go_wp2_with fail
 refine (CT2.out _).mono ?_
 rintro e w2 ⟨tk, rfl, hb3⟩
 have HPOS := Li (HPOS.out.below hb3 HPOS.out.lt)
 have HB2 := Li (HB2.out.trans (hb3.mono (by have := HB2.out.size; omega)))
 have hz2 : xb + 1 ≤ w2.heap.size := by have := hb3.size; omega
 clear hb3
 have WT := Li (want_any H bm bi bf q w2 (HM.out.below HB2.out))
 go_wp2_with fail
 refine WT.out.mono ?_
 rintro e w3 ⟨rfl, hs3, hm3⟩
 obtain ⟨hp3, _, _⟩ := hs3.blk HPOS.out (by omega) (by omega) (by omega) (by omega)
 have z3 := hs3.size
 have p0 := hp3.cell 0 (by simp)
 have p1 := hp3.cell 1 (by simp)
 have p2 := hp3.cell 2 (by simp)
 have pl := hp3.lt
 have hst : Stp w.heap.size w w3 bm bi bf bi bf := (Stp.of_below HB2.out).trans (hs3.mono (by omega))
 have HROW3 := Li (HROW.out.mono (Gx.stp hst hbl []))
 have HNDS3 := Li (HNDS.out.mono (Gx.stp hst hbl []))
 obtain ⟨nb, hnb⟩ : ∃ nb, w3.heap.size = nb := ⟨_, rfl⟩
 obtain ⟨rb, rfl, hrb, hrc, hrm, hvl, hrow⟩ := HROW3.out.cells (by omega)
 unfold maxLen at hrm
 match vs, hvl with
 | [v0, v1], _ =>
 have hnd := HNDS.out
 obtain ⟨T0, b0, rfl⟩ : ∃ T b, v0 = .iface T (.pointer (some ⟨b, 0, none⟩)) := by
   have hh := HNDS.out
   cases hh with
   | cons _ _ _ _ _ _ hh _ => exact hh.form
 have r0 := hrow 0 _ rfl
 obtain ⟨T1, b1, rfl⟩ : ∃ T b, v1 = .iface T (.pointer (some ⟨b, 0, none⟩)) := by
   have hh := HNDS.out
   cases hh with
   | cons _ _ _ _ _ _ _ hh =>
   cases hh with
   | cons _ _ _ _ _ _ hh _ => exact hh.form
 have r1 := hrow 1 _ rfl
 have hrl : rb < nb := by omega
 clear hrow hnd
 have hxl : xb < nb := by omega
 have FIN : Hid (PlPost H bm bi bf q lo (cn + 1) ns w (.returned (.iface 158 (.pointer (some ⟨nb, 0, none⟩)))) (w3.alloc (.cells #[.pointer none, .iface T0 (.pointer (some ⟨b0, 0, none⟩)), .pointer (some ⟨bm, 0, none⟩), .int .i32 ln, .int .i32 1, .int .i8 tk, .iface T1 (.pointer (some ⟨b1, 0, none⟩))] 160)).drew) := Li (by
   have hb : Below w3.heap.size w3 (w3.alloc (.cells #[.pointer none, .iface T0 (.pointer (some ⟨b0, 0, none⟩)), .pointer (some ⟨bm, 0, none⟩), .int .i32 ln, .int .i32 1, .int .i8 tk, .iface T1 (.pointer (some ⟨b1, 0, none⟩))] 160)).drew := ((Below.refl _ _).alloc (Nat.le_refl _) _).drew
   have hx : Blk (w3.alloc (.cells #[.pointer none, .iface T0 (.pointer (some ⟨b0, 0, none⟩)), .pointer (some ⟨bm, 0, none⟩), .int .i32 ln, .int .i32 1, .int .i8 tk, .iface T1 (.pointer (some ⟨b1, 0, none⟩))] 160)).drew nb 160 [.pointer none, .iface T0 (.pointer (some ⟨b0, 0, none⟩)), .pointer (some ⟨bm, 0, none⟩), .int .i32 ln, .int .i32 1, .int .i8 tk, .iface T1 (.pointer (some ⟨b1, 0, none⟩))] := by rw [← hnb]; exact Blk.new w3 _ _
   exact pl_fin (by simp [tbl]) (hst.trans (Stp.of_below (hb.mono (by omega)))) (hm3.below hb) hx (by omega) hlo g5 g6 (.x 1 _ _ _ rfl (.x 6 _ _ _ rfl .nil)) (HNDS3.out.mono (Gx.below hb)))
 clear hs3 hm3 hp3 hst
 go_wp2_with fail
 go_region
 go_wp2_with fail
 go_ret
 exact FIN.out
end Go.Proofs.YtoojgjhfmmohbaaGreat
