/- impl.many of an expression that a text could be: true (printed by genwkmany.py). A node whose parts are made one behind the other and laid into its cells. maker.expr: the kinds that hand on, those of maker.plain (printed by genwkex.py). -/
import Derived.Test.YtoojgjhfmmohbaaGreatWkCall
import Derived.Test.YtoojgjhfmmohbaaGreatMSlc
namespace Go.Proofs.YtoojgjhfmmohbaaGreat
open Go.RowKit Dig
set_option linter.unusedVariables false
set_option linter.unusedSimpArgs false
set_option maxRecDepth 100000
def ManyPost (w : World) (e : Ending) (w' : World) : Prop := e = .returned (.bool true) ∧ Below w.heap.size w w'
theorem many_any {R : Nat → Nat → Option Value} {B : Nat} {t : Tr} {cs : List Value} {w : World} (vt : ExV R t cs) (ok : OkE t) (ho : Old R B w) (hB : B ≤ w.heap.size) : Calls Tryz.prog 46 #[.agg cs.toArray] w (ManyPost w) := by
 obtain ⟨kd, op, tx, v, nm, a, b, c, d, ma, mc, ka, kc, sa, sc, pa, pc, rfl, rfl, _, hxa, _, _⟩ := vt.form
 have hm := hxa.form
 obtain ⟨a', c', e, hc, hmx, hrow⟩ := hm
 simp only [Value.slice.injEq, true_and] at e
 obtain ⟨rfl, rfl⟩ := e
 unfold maxLen at hmx
 cases ok with
 | name => exact many_k1 _ _ _ _ _ _ _ _ _ _ _ _ _ _ _ _ _ _
 | lit => exact many_k2 _ _ _ _ _ _ _ _ _ _ _ _ _ _ _ _ _ _
 | many _ _ _ _ _ _ _ _ hk =>
   rcases hk with rfl | rfl
   · exact many_k3 _ _ _ _ _ _ _ _ _ _ _ _ _ _ _ _ _ _ _
   · exact many_k4 _ _ _ _ _ _ _ _ _ _ _ _ _ _ _ _ _ _ _
 | dict _ _ _ _ _ _ _ he => exact many_k5 _ _ _ _ _ _ _ _ _ _ _ _ _ _ _ _ _ _ _ he
 | unary => exact many_k6 _ _ _ _ _ _ _ _ _ _ _ _ _ _ _ _ _ _
 | binary => exact many_k7 _ _ _ _ _ _ _ _ _ _ _ _ _ _ _ _ _ _
 | two _ _ _ _ _ _ _ _ _ hk =>
   rcases hk with rfl | rfl | rfl
   · exact many_k8 _ _ _ _ _ _ _ _ _ _ _ _ _ _ _ _ _ _
   · exact many_k9 _ _ _ _ _ _ _ _ _ _ _ _ _ _ _ _ _ _
   · exact many_k11 _ _ _ _ _ _ _ _ _ _ _ _ _ _ _ _ _ _
 | cond => exact many_k10 _ _ _ _ _ _ _ _ _ _ _ _ _ _ _ _ _ _
 | slice => exact many_k12 _ _ _ _ _ _ _ _ _ _ _ _ _ _ _ _ _ _
 | dot => exact many_k13 _ _ _ _ _ _ _ _ _ _ _ _ _ _ _ _ _ _
 | call _ _ _ _ f l => exact many_k14 _ _ _ _ _ _ _ _ _ _ _ _ _ _ _ _ _ _ _ (by simp)
 | lam => exact many_k18 _ _ _ _ _ _ _ _ _ _ _ _ _ _ _ _ _ _
 | listOf _ _ _ _ x k l _ _ _ hk =>
   obtain ⟨rb, ro, rfl, hr⟩ := hrow (by simp)
   obtain ⟨kdk, opk, txk, vk, nmk, ak, bk, ck, dk, _, _, _, _, _, _, _, _, rfl, _, _, _, c0, _⟩ := (hr 1 k rfl).cells ho
   simp only [Tr.kd] at hk
   subst hk
   simp only [List.length_cons] at hc
   exact many_k19 _ _ _ _ _ _ _ _ _ _ _ _ _ _ _ _ _ _ _ rb ro (by simp) rfl c0
 | dictOf _ _ _ _ x y k l _ _ _ _ hk =>
   obtain ⟨rb, ro, rfl, hr⟩ := hrow (by simp)
   obtain ⟨kdk, opk, txk, vk, nmk, ak, bk, ck, dk, _, _, _, _, _, _, _, _, rfl, _, _, _, c0, _⟩ := (hr 2 k rfl).cells ho
   simp only [Tr.kd] at hk
   subst hk
   simp only [List.length_cons] at hc
   exact many_k20 _ _ _ _ _ _ _ _ _ _ _ _ _ _ _ _ _ _ _ rb ro (by simp) rfl c0
 | paren => exact many_k23 _ _ _ _ _ _ _ _ _ _ _ _ _ _ _ _ _ _
def Fr (e : TypeId) : Prop := e ≠ 83 ∧ e ≠ 56 ∧ e ≠ 55
theorem Ch.congr {G : Nat → Option Obj} {L L' : List Value} {sl : List (Nat × Kd)} {ch : List Value} (h : Ch G L sl ch) (hL : ∀ i k, (i, k) ∈ sl → L'[i]? = L[i]?) : Ch G L' sl ch := by
 induction h with
 | nil => exact .nil
 | x i v sl ch h _ ih => exact .x i v sl ch ((hL i .x (by simp)).trans h) (ih fun j k hk => hL j k (by simp [hk]))
 | none i sl ch h _ ih => exact .none i sl ch ((hL i .o (by simp)).trans h) (ih fun j k hk => hL j k (by simp [hk]))
 | some i v sl ch h _ ih => exact .some i v sl ch ((hL i .o (by simp)).trans h) (ih fun j k hk => hL j k (by simp [hk]))
 | n i p sl ch h _ ih => exact .n i p sl ch ((hL i .n (by simp)).trans h) (ih fun j k hk => hL j k (by simp [hk]))
 | s i v vs sl ch h hv _ ih => exact .s i v vs sl ch ((hL i .s (by simp)).trans h) hv (ih fun j k hk => hL j k (by simp [hk]))
theorem Ch.append {G : Nat → Option Obj} {L : List Value} {sl sl' : List (Nat × Kd)} {ch ch' : List Value} (h : Ch G L sl ch) (k : Ch G L sl' ch') : Ch G L (sl ++ sl') (ch ++ ch') := by
 induction h with
 | nil => exact k
 | x i v sl ch h _ ih => exact .x i v _ _ h ih
 | none i sl ch h _ ih => exact .none i _ _ h ih
 | some i v sl ch h _ ih => exact .some i v _ _ h ih
 | n i p sl ch h _ ih => exact .n i p _ _ h ih
 | s i v vs sl ch h hv _ ih => rw [List.append_assoc]; exact .s i v vs _ _ h hv ih
structure Bld (H bm bi bf q xb pb eb : Nat) (ln : Int) (e et : TypeId) (L EE : List Value) (sl : List (Nat × Kd)) (w : World) (n m : Nat) (ch : List Value) (ns : List ByteArray) (c bi' bf' : Nat) (wr : World) : Prop where
 hx : Blk wr xb e L
 hp : Blk wr pb 63 [.pointer (some ⟨bm, 0, none⟩), .int .i32 ln, .int .i32 1]
 he : Blk wr eb et EE
 hs : Stp w.heap.size w wr bm bi bf bi' bf'
 hm : MK wr H bm bi' bf' (q + m)
 hch : Ch (Gx wr w.heap.size [bi', bf', xb]) L sl ch
 hn : Nds (Gx wr w.heap.size [bi', bf', xb]) ch ns c
 hc : c ≤ 3 * n + 1
 hb : w.heap.size ≤ xb
 hl : bm < w.heap.size
 t1 : Fr e
 t2 : Fr et
 npx : pb ≠ xb
 nex : eb ≠ xb
section
variable {H bm bi bf q xb pb eb : Nat} {ln : Int} {e et : TypeId} {L EE : List Value} {sl : List (Nat × Kd)} {w : World} {n m : Nat} {ch : List Value} {ns : List ByteArray} {c bi' bf' : Nat} {wr : World}
theorem Bld.nx (h : Bld H bm bi bf q xb pb eb ln e et L EE sl w n m ch ns c bi' bf' wr) : xb ≠ bm ∧ xb ≠ bi' ∧ xb ≠ bf' := h.hm.ne h.hx h.t1.1 h.t1.2.1 h.t1.2.2
theorem Bld.keep (h : Bld H bm bi bf q xb pb eb ln e et L EE sl w n m ch ns c bi' bf' wr) {w2 : World} {m' bi2 bf2 : Nat} (hs : Stp wr.heap.size wr w2 bm bi' bf' bi2 bf2) (hm : MK w2 H bm bi2 bf2 (q + m')) : Bld H bm bi bf q xb pb eb ln e et L EE sl w n m' ch ns c bi2 bf2 w2 := by
 obtain ⟨n1, n2, n3⟩ := h.nx
 obtain ⟨a1, a2, a3⟩ := h.hm.ne h.hp (by decide) (by decide) (by decide)
 obtain ⟨b1, b2, b3⟩ := h.hm.ne h.he h.t2.1 h.t2.2.1 h.t2.2.2
 have hg := Gx.stp hs h.hl [xb]
 exact ⟨(hs.blk h.hx h.hx.lt n1 n2 n3).1, (hs.blk h.hp h.hp.lt a1 a2 a3).1, (hs.blk h.he h.he.lt b1 b2 b3).1, h.hs.trans (hs.mono h.hs.size), hm, h.hch.mono hg, h.hn.mono hg, h.hc, h.hb, h.hl, h.t1, h.t2, h.npx, h.nex⟩
theorem Bld.put (h : Bld H bm bi bf q xb pb eb ln e et L EE sl w n m ch ns c bi' bf' wr) {w2 : World} {bi2 bf2 m2 k j c2 : Nat} {v : Value} {kd : Kd} {ch2 : List Value} {ns2 : List ByteArray} (hs : Stp wr.heap.size wr w2 bm bi' bf' bi2 bf2) (hm : MK w2 H bm bi2 bf2 (q + m2))
   (hj : ∀ i k, (i, k) ∈ sl → i ≠ j) (hch : ∀ G, GLe (Gx w2 wr.heap.size [bi2, bf2]) G → Ch G (L.set j v) [(j, kd)] ch2) (hn : Nds (Gx w2 wr.heap.size [bi2, bf2]) ch2 ns2 c2) (hc : c2 ≤ 3 * k) :
   Bld H bm bi bf q xb pb eb ln e et (L.set j v) EE (sl ++ [(j, kd)]) w (n + k) m2 (ch ++ ch2) (ns ++ ns2) (c + c2) bi2 bf2 (w2.setCell ⟨xb, j, none⟩ v) := by
 have h2 := h.keep hs hm
 obtain ⟨n1, n2, n3⟩ := h2.nx
 have hxl := h.hx.lt
 have hz := h.hs.size
 have hg : GLe (Gx w2 w.heap.size [bi2, bf2, xb]) (Gx (w2.setCell ⟨xb, j, none⟩ v) w.heap.size [bi2, bf2, xb]) := Gx.le (Nat.le_refl _) fun b _ _ h3 => ⟨h3, Below.heap_setCell w2 _ v b (by simp at h3; show b ≠ xb; omega)⟩
 have hg2 : GLe (Gx w2 wr.heap.size [bi2, bf2]) (Gx (w2.setCell ⟨xb, j, none⟩ v) w.heap.size [bi2, bf2, xb]) := Gx.le hz fun b h1 _ h3 => by
   have hne : b ≠ xb := by omega
   refine ⟨by simp at h3 ⊢; omega, Below.heap_setCell w2 _ v b hne⟩
 refine ⟨h2.hx.set j v, h2.hp.far h.npx v, h2.he.far h.nex v, h2.hs.set_far h.hb, h2.hm.set_far n1 n2 n3, ?_, (h2.hn.mono hg).append (hn.mono hg2), by have := h.hc; omega, h.hb, h.hl, h.t1, h.t2, h.npx, h.nex⟩
 refine Ch.append ((h2.hch.mono hg).congr fun i k hk => ?_) (hch _ hg2)
 rw [List.getElem?_set_ne (fun e => hj i k hk e.symm)]
theorem Bld.putS (h : Bld H bm bi bf q xb pb eb ln e et L EE sl w n m ch ns c bi' bf' wr) {w2 : World} {j k len : Nat} {ns2 : List ByteArray} {en : Ending} (hp : MLPost H bm bi' bf' (q + m) k len ns2 wr en w2) (hj : ∀ i k, (i, k) ∈ sl → i ≠ j) (hjl : j < L.length) :
   ∃ a cc ch2 c2 bi2 bf2, en = .returned (.slice a len cc) ∧ Blk w2 xb e L ∧ Bld H bm bi bf q xb pb eb ln e et (L.set j (.slice a len cc)) EE (sl ++ [(j, .s)]) w (n + k) (m + k) (ch ++ ch2) (ns ++ ns2) (c + c2) bi2 bf2 (w2.setCell ⟨xb, j, none⟩ (.slice a len cc)) := by
 obtain ⟨a, cc, vs, c2, bi2, bf2, rfl, hvl, hs, hm, hr, hn, hc⟩ := hp
 rw [Nat.add_assoc] at hm
 refine ⟨a, cc, vs, c2, bi2, bf2, rfl, (h.keep hs hm).hx, h.put hs hm hj (fun G hG => ?_) hn hc⟩
 have := Ch.s (G := G) (L := L.set j (.slice a len cc)) j (.slice a len cc) vs [] [] (by rw [List.getElem?_set_self hjl]) (hr.mono hG) .nil
 simpa using this
theorem Bld.putX (h : Bld H bm bi bf q xb pb eb ln e et L EE sl w n m ch ns c bi' bf' wr) {w2 : World} {j k : Nat} {ns2 : List ByteArray} {en : Ending} (hp : MPost H bm bi' bf' (q + m) k ns2 wr en w2) (hj : ∀ i k, (i, k) ∈ sl → i ≠ j) (hjl : j < L.length) :
   ∃ T b c2 bi2 bf2, en = .returned (.iface T (.pointer (some ⟨b, 0, none⟩))) ∧ Blk w2 xb e L ∧ Bld H bm bi bf q xb pb eb ln e et (L.set j (.iface T (.pointer (some ⟨b, 0, none⟩)))) EE (sl ++ [(j, .x)]) w (n + k) (m + k) (ch ++ [.iface T (.pointer (some ⟨b, 0, none⟩))]) (ns ++ ns2) (c + c2) bi2 bf2 (w2.setCell ⟨xb, j, none⟩ (.iface T (.pointer (some ⟨b, 0, none⟩)))) := by
 obtain ⟨T, b, c2, bi2, bf2, rfl, hs, hm, hn, hc⟩ := hp
 rw [Nat.add_assoc] at hm
 exact ⟨T, b, c2, bi2, bf2, rfl, (h.keep hs hm).hx, h.put hs hm hj (fun G _ => .x j _ _ _ (by rw [List.getElem?_set_self hjl]) .nil) (Nds.one hn) (by omega)⟩
theorem Bld.fin (h : Bld H bm bi bf q xb pb eb ln e et L EE sl w n m ch ns c bi' bf' wr) {T : TypeId} {N : Nat} {NS : List ByteArray} (hT : (T, e, sl) ∈ tbl) (hN : n + 1 ≤ N) (hmN : m ≤ N) (hNS : NS = ns) : MPost H bm bi bf q N NS w (.returned (.iface T (.pointer (some ⟨xb, 0, none⟩)))) wr := by
 obtain ⟨n1, n2, n3⟩ := h.nx
 have hg : GLe (Gx wr w.heap.size [bi', bf', xb]) (Gx wr w.heap.size [bi', bf']) := Gx.le (Nat.le_refl _) fun b _ _ h3 => ⟨by simp at h3 ⊢; omega, rfl⟩
 have hc := h.hc
 subst hNS
 exact ⟨T, xb, c + 1, bi', bf', rfl, h.hs, h.hm.mono (by omega), .node T e sl hT xb L (Gx.of h.hx h.hb (by simp; omega)) ch (h.hch.mono hg) NS c (h.hn.mono hg), by omega⟩
end
theorem mex_head {R : Nat → Nat → Option Value} {B H bm bi bf q : Nat} {w w1 w2 w3 : World} {e : TypeId} {L : List Value} (n1 : e ≠ 83) (n2 : e ≠ 56) (n3 : e ≠ 55) (hm : MK w H bm bi bf q) (ho : Old R B w) (hBH : B ≤ H)
   (hb1 : Below (w.alloc (.cells L.toArray e)).heap.size (w.alloc (.cells L.toArray e)) w1) (hs2 : Stp w1.heap.size w1 w2 bm bi bf bi bf) (hm2 : MK w2 H bm bi bf q) (hb3 : Below w2.heap.size w2 w3) (o : Obj) :
   Stp w.heap.size w (w3.alloc o) bm bi bf bi bf ∧ MK (w3.alloc o) H bm bi bf q ∧ Blk (w3.alloc o) w.heap.size e L ∧ Old R B (w3.alloc o) ∧ w.heap.size < w3.heap.size := by
 have hl := hm.lts
 have hb0 : Below w.heap.size w (w.alloc (.cells L.toArray e)) := (Below.refl _ _).alloc (Nat.le_refl _) _
 have z0 : (w.alloc (.cells L.toArray e)).heap.size = w.heap.size + 1 := by simp
 have z1 := hb1.size
 have z2 := hs2.size
 have z3 := hb3.size
 have s1 : Stp w.heap.size w w1 bm bi bf bi bf := Stp.of_below (hb0.trans (hb1.mono (by omega)))
 have s2 : Stp w.heap.size w w2 bm bi bf bi bf := s1.trans (hs2.mono (by omega))
 have s3 : Stp w.heap.size w (w3.alloc o) bm bi bf bi bf := (s2.trans (Stp.of_below (hb3.mono (by omega)))).alloc (Nat.le_refl _) o
 have E0 : Blk (w.alloc (.cells L.toArray e)) w.heap.size e L := Blk.new w _ _
 have E1 : Blk w1 w.heap.size e L := E0.below hb1 E0.lt
 have hm1 : MK w1 H bm bi bf q := (hm.below hb0).below hb1
 obtain ⟨k1, k2, k3⟩ := hm1.ne E1 n1 n2 n3
 have E2 := (hs2.blk E1 E1.lt k1 k2 k3).1
 refine ⟨s3, (hm2.below hb3).alloc o, (E2.below hb3 E2.lt).alloc o, ho.below ((s3.below (H := H) (by omega) (by omega) (by omega) (by omega)).mono hBH), by omega⟩
theorem MPost.pre {H bm bi bf q n : Nat} {ns : List ByteArray} {w W w' : World} {e : Ending} (h : MPost H bm bi bf q n ns W e w') (hs : Stp w.heap.size w W bm bi bf bi bf) : MPost H bm bi bf q n ns w e w' := by
 obtain ⟨T, b, c, bi', bf', rfl, hs4, hm4, hn4, hc4⟩ := h
 have hz := hs.size
 exact ⟨T, b, c, bi', bf', rfl, hs.trans (hs4.mono hz), hm4, hn4.mono (Gx.le hz fun b _ _ h3 => ⟨h3, rfl⟩), hc4⟩
theorem MPost.ret {H bm bi bf q n : Nat} {ns : List ByteArray} {w w' : World} {e : Ending} (h : MPost H bm bi bf q n ns w e w') : ∃ T b, e = .returned (.iface T (.pointer (some ⟨b, 0, none⟩))) := by
 obtain ⟨T, b, c, bi', bf', rfl, _⟩ := h
 exact ⟨T, b, rfl⟩
theorem IdPost.mpost {H bm bi bf q : Nat} {tx : ByteArray} {w w' : World} {e : Ending} (h : IdPost H bm bi bf q tx w e w') : ∃ ib, e = .returned (.pointer (some ⟨ib, 0, none⟩)) ∧ MPost H bm bi bf q 1 [tx] w (.returned (.iface 56 (.pointer (some ⟨ib, 0, none⟩)))) w' := by
 obtain ⟨ib, bi', rfl, hs, hm, hn, _, _⟩ := h
 exact ⟨ib, rfl, _, ib, 1, bi', bf, rfl, hs, hm, hn, by omega⟩
theorem ct_pos {kd op : Int} {tx : ByteArray} {v : VV} {nm : List ByteArray} {a b c d : List Tr} (h : kd ≠ 0) : 1 ≤ ctE (.mk kd op tx v nm a b c d) := by rw [ctE_mk, if_neg h]; omega
theorem OkE.ct {t : Tr} (h : OkE t) : 1 ≤ ctE t := by
 cases h with
 | many _ _ _ _ _ _ _ _ hk => exact ct_pos (by omega)
 | two _ _ _ _ _ _ _ _ _ hk => exact ct_pos (by omega)
 | _ => exact ct_pos (by omega)
theorem OkG.ct {t : Tr} (h : OkG t) : 1 ≤ ctE t := by
 cases h with
 | expr _ h => exact h.ct
 | sign kd op tx v nm x c d hk hx => exact ct_pos (by omega)
theorem OkC.ct {t : Tr} (h : OkC t) : 1 ≤ ctE t := by
 cases h <;> exact ct_pos (by omega)
theorem len_le_ctEs {l : List Tr} (h : ∀ t ∈ l, 1 ≤ ctE t) : l.length ≤ ctEs l := by
 induction l with
 | nil => simp
 | cons t l ih =>
   have h1 := h t (by simp)
   have h2 := ih (fun s hs => h s (by simp [hs]))
   simp
   omega
theorem len_le_ctPs {l : List Tr} : l.length ≤ ctPs l := by
 induction l with
 | nil => simp
 | cons t l ih =>
   have h1 : 1 ≤ ctP t := by cases t; rw [ctP_mk]; omega
   simp
   omega
set_option maxHeartbeats 6400000 in
theorem mex_k1 {R : Nat → Nat → Option Value} {B H bm : Nat} (op : Int) (tx : ByteArray) (v : VV) (nm : List ByteArray) (c d : List Tr) (ma ka sa pa : Option Addr) (mc kc sc pc : Nat) (w : World) (bi bf q : Nat) (IH : ∀ s, SizeOf.sizeOf s < SizeOf.sizeOf (Tr.mk 1 op tx v nm [] [] c d) → MEx R B H bm s) (hvr : VaR R v [.int .i64 v.kd, .bool v.nb, .slice ma v.ms.length mc, .int .u64 v.ub, .string v.tx, .slice ka v.kn kc]) (hxa : ExL R [] (.slice sa 0 sc)) (hpa : PaL R [] (.slice pa 0 pc)) (vt : ExV R (Tr.mk 1 op tx v nm [] [] c d) [.int .i64 1, .int .i64 op, .string tx, .int .i64 v.kd, .bool v.nb, .slice ma v.ms.length mc, .int .u64 v.ub, .string v.tx, .slice ka v.kn kc, .slice sa 0 sc, .slice pa 0 pc]) (ho : Old R B w) (hBH : B ≤ H) (hm : MK w H bm bi bf q) (hq : q + ctE (Tr.mk 1 op tx v nm [] [] c d) ≤ 8192) (ok : OkE (Tr.mk 1 op tx v nm [] [] c d)) :
   Calls Tryz.prog 45 #[.pointer (some ⟨bm, 0, none⟩), .agg #[.int .i64 1, .int .i64 op, .string tx, .int .i64 v.kd, .bool v.nb, .slice ma v.ms.length mc, .int .u64 v.ub, .string v.tx, .slice ka v.kn kc, .slice sa 0 sc, .slice pa 0 pc]] w (MPost H bm bi bf q (ctE (Tr.mk 1 op tx v nm [] [] c d)) (nmE (Tr.mk 1 op tx v nm [] [] c d)) w) := by
 obtain ⟨W0, hW0⟩ : ∃ W0, W0 = w.alloc (.cells #[.int .i64 1, .int .i64 op, .string tx, .int .i64 v.kd, .bool v.nb, .slice ma v.ms.length mc, .int .u64 v.ub, .string v.tx, .slice ka v.kn kc, .slice sa 0 sc, .slice pa 0 pc] 75) := ⟨_, rfl⟩
 have hb0 : Below w.heap.size w W0 := by rw [hW0]; exact (Below.refl _ _).alloc (Nat.le_refl _) _
 have hl := hm.lts
 have hO0 : Old R B W0 := ho.below (hb0.mono (by omega))
 have MANY := Li (many_any vt ok hO0 (by have := hb0.size; omega))
 have HB0 := Li hb0
 have HM := Li hm
 have HO := Li ho
 have HV := Li vt
 have HIH := Li IH
 have HOK := Li ok
 have HQ := Li hq
 have HVR := Li hvr
 have HXA := Li hxa
 have HPA := Li hpa
 clear hb0 hO0 hm ho vt IH ok hq hvr hxa hpa
 subst hW0
 go_enter Tryz.func45, Tryz.ntmps45
 go_wp2_with fail
 refine MANY.out.mono ?_
 rintro e w1 ⟨rfl, hb1⟩
 clear MANY
 have WT := Li (want_any H bm bi bf q w1 ((HM.out.below HB0.out).below hb1))
 go_wp2_with fail
 refine WT.out.mono ?_
 rintro e w2 ⟨rfl, hs2, hm2⟩
 clear WT
 have HPOS := Li (pos_any H bm bi bf q w2 hm2)
 go_wp2_with fail
 refine HPOS.out.mono ?_
 rintro e w3 ⟨ln, rfl, hb3⟩
 clear HPOS
 obtain ⟨pb, hpb⟩ : ∃ pb, w3.heap.size = pb := ⟨_, rfl⟩
 obtain ⟨hst, hmp, he, hop, hz3⟩ := mex_head (L := [.int .i64 1, .int .i64 op, .string tx, .int .i64 v.kd, .bool v.nb, .slice ma v.ms.length mc, .int .u64 v.ub, .string v.tx, .slice ka v.kn kc, .slice sa 0 sc, .slice pa 0 pc]) (by decide) (by decide) (by decide) HM.out HO.out hBH hb1 hs2 hm2 hb3 (.cells #[.pointer (some ⟨bm, 0, none⟩), .int .i32 ln, .int .i32 1] 63)
 have hpk : Blk (w3.alloc (.cells #[.pointer (some ⟨bm, 0, none⟩), .int .i32 ln, .int .i32 1] 63)) pb 63 [.pointer (some ⟨bm, 0, none⟩), .int .i32 ln, .int .i32 1] := by rw [← hpb]; exact Blk.new w3 _ _
 have d0 := he.cell 0 (by simp)
 have d2 := he.cell 2 (by simp)
 have HST := Li hst
 have HMP := Li hmp
 have HE := Li he
 have HOP := Li hop
 have HPK := Li hpk
 clear hb1 hs2 hm2 hb3 hst hmp he hop hpk
 have CL := Li (ident_any H bm bi bf q tx (w3.alloc (.cells #[.pointer (some ⟨bm, 0, none⟩), .int .i32 ln, .int .i32 1] 63)) HMP.out (by have := HQ.out; omega))
 go_wp2_with fail
 refine CL.out.mono ?_
 rintro e w4 h4
 obtain ⟨b4, he4, h5⟩ := IdPost.mpost h4
 subst he4
 have FIN : Hid (MPost H bm bi bf q (ctE (Tr.mk 1 op tx v nm [] [] c d)) (nmE (Tr.mk 1 op tx v nm [] [] c d)) w (.returned (.iface 56 (.pointer (some ⟨b4, 0, none⟩)))) w4) := Li (by have := h5.pre HST.out; simpa [ctE_mk, nmE_mk] using this)
 clear h4 h5 CL
 go_wp2_with fail
 go_ret
 exact FIN.out
set_option maxHeartbeats 6400000 in
theorem mex_k2 {R : Nat → Nat → Option Value} {B H bm : Nat} (op : Int) (tx : ByteArray) (v : VV) (nm : List ByteArray) (c d : List Tr) (ma ka sa pa : Option Addr) (mc kc sc pc : Nat) (w : World) (bi bf q : Nat) (IH : ∀ s, SizeOf.sizeOf s < SizeOf.sizeOf (Tr.mk 2 op tx v nm [] [] c d) → MEx R B H bm s) (hvr : VaR R v [.int .i64 v.kd, .bool v.nb, .slice ma v.ms.length mc, .int .u64 v.ub, .string v.tx, .slice ka v.kn kc]) (hxa : ExL R [] (.slice sa 0 sc)) (hpa : PaL R [] (.slice pa 0 pc)) (vt : ExV R (Tr.mk 2 op tx v nm [] [] c d) [.int .i64 2, .int .i64 op, .string tx, .int .i64 v.kd, .bool v.nb, .slice ma v.ms.length mc, .int .u64 v.ub, .string v.tx, .slice ka v.kn kc, .slice sa 0 sc, .slice pa 0 pc]) (ho : Old R B w) (hBH : B ≤ H) (hm : MK w H bm bi bf q) (hq : q + ctE (Tr.mk 2 op tx v nm [] [] c d) ≤ 8192) (ok : OkE (Tr.mk 2 op tx v nm [] [] c d)) :
   Calls Tryz.prog 45 #[.pointer (some ⟨bm, 0, none⟩), .agg #[.int .i64 2, .int .i64 op, .string tx, .int .i64 v.kd, .bool v.nb, .slice ma v.ms.length mc, .int .u64 v.ub, .string v.tx, .slice ka v.kn kc, .slice sa 0 sc, .slice pa 0 pc]] w (MPost H bm bi bf q (ctE (Tr.mk 2 op tx v nm [] [] c d)) (nmE (Tr.mk 2 op tx v nm [] [] c d)) w) := by
 obtain ⟨W0, hW0⟩ : ∃ W0, W0 = w.alloc (.cells #[.int .i64 2, .int .i64 op, .string tx, .int .i64 v.kd, .bool v.nb, .slice ma v.ms.length mc, .int .u64 v.ub, .string v.tx, .slice ka v.kn kc, .slice sa 0 sc, .slice pa 0 pc] 75) := ⟨_, rfl⟩
 have hb0 : Below w.heap.size w W0 := by rw [hW0]; exact (Below.refl _ _).alloc (Nat.le_refl _) _
 have hl := hm.lts
 have hO0 : Old R B W0 := ho.below (hb0.mono (by omega))
 have MANY := Li (many_any vt ok hO0 (by have := hb0.size; omega))
 have HB0 := Li hb0
 have HM := Li hm
 have HO := Li ho
 have HV := Li vt
 have HIH := Li IH
 have HOK := Li ok
 have HQ := Li hq
 have HVR := Li hvr
 have HXA := Li hxa
 have HPA := Li hpa
 clear hb0 hO0 hm ho vt IH ok hq hvr hxa hpa
 subst hW0
 go_enter Tryz.func45, Tryz.ntmps45
 go_wp2_with fail
 refine MANY.out.mono ?_
 rintro e w1 ⟨rfl, hb1⟩
 clear MANY
 have WT := Li (want_any H bm bi bf q w1 ((HM.out.below HB0.out).below hb1))
 go_wp2_with fail
 refine WT.out.mono ?_
 rintro e w2 ⟨rfl, hs2, hm2⟩
 clear WT
 have HPOS := Li (pos_any H bm bi bf q w2 hm2)
 go_wp2_with fail
 refine HPOS.out.mono ?_
 rintro e w3 ⟨ln, rfl, hb3⟩
 clear HPOS
 obtain ⟨pb, hpb⟩ : ∃ pb, w3.heap.size = pb := ⟨_, rfl⟩
 obtain ⟨hst, hmp, he, hop, hz3⟩ := mex_head (L := [.int .i64 2, .int .i64 op, .string tx, .int .i64 v.kd, .bool v.nb, .slice ma v.ms.length mc, .int .u64 v.ub, .string v.tx, .slice ka v.kn kc, .slice sa 0 sc, .slice pa 0 pc]) (by decide) (by decide) (by decide) HM.out HO.out hBH hb1 hs2 hm2 hb3 (.cells #[.pointer (some ⟨bm, 0, none⟩), .int .i32 ln, .int .i32 1] 63)
 have hpk : Blk (w3.alloc (.cells #[.pointer (some ⟨bm, 0, none⟩), .int .i32 ln, .int .i32 1] 63)) pb 63 [.pointer (some ⟨bm, 0, none⟩), .int .i32 ln, .int .i32 1] := by rw [← hpb]; exact Blk.new w3 _ _
 have d0 := he.cell 0 (by simp)
 have d2 := he.cell 2 (by simp)
 have HST := Li hst
 have HMP := Li hmp
 have HE := Li he
 have HOP := Li hop
 have HPK := Li hpk
 clear hb1 hs2 hm2 hb3 hst hmp he hop hpk
 have okv : OkV v := by cases HOK.out with | lit _ _ _ _ _ _ hv => exact hv | many _ _ _ _ _ _ _ _ hk => omega
 have CL := Li (literal_any H bm bi bf q v ma mc ka kc (w3.alloc (.cells #[.pointer (some ⟨bm, 0, none⟩), .int .i32 ln, .int .i32 1] 63)) HMP.out HVR.out okv HOP.out (by have := HMP.out.lts; omega))
 have d1 := HE.out.cell 1 (by simp)
 have d3 := HE.out.cell 3 (by simp)
 have d4 := HE.out.cell 4 (by simp)
 have d5 := HE.out.cell 5 (by simp)
 have d6 := HE.out.cell 6 (by simp)
 have d7 := HE.out.cell 7 (by simp)
 have d8 := HE.out.cell 8 (by simp)
 have d9 := HE.out.cell 9 (by simp)
 have d10 := HE.out.cell 10 (by simp)
 go_wp2_with fail
 refine CL.out.mono ?_
 rintro e w4 h4
 obtain ⟨T4, b4, rfl⟩ := h4.ret
 have FIN : Hid (MPost H bm bi bf q (ctE (Tr.mk 2 op tx v nm [] [] c d)) (nmE (Tr.mk 2 op tx v nm [] [] c d)) w (.returned (.iface T4 (.pointer (some ⟨b4, 0, none⟩)))) w4) := Li (by have := h4.pre HST.out; simpa [ctE_mk, nmE_mk] using this)
 clear h4 CL
 go_wp2_with fail
 go_ret
 exact FIN.out
set_option maxHeartbeats 6400000 in
theorem mex_k12 {R : Nat → Nat → Option Value} {B H bm : Nat} (op : Int) (tx : ByteArray) (v : VV) (nm : List ByteArray) (x lo hi st : Tr) (c d : List Tr) (ma ka sa pa : Option Addr) (mc kc sc pc : Nat) (w : World) (bi bf q : Nat) (IH : ∀ s, SizeOf.sizeOf s < SizeOf.sizeOf (Tr.mk 12 op tx v nm [x, lo, hi, st] [] c d) → MEx R B H bm s) (hvr : VaR R v [.int .i64 v.kd, .bool v.nb, .slice ma v.ms.length mc, .int .u64 v.ub, .string v.tx, .slice ka v.kn kc]) (hxa : ExL R [x, lo, hi, st] (.slice sa 4 sc)) (hpa : PaL R [] (.slice pa 0 pc)) (vt : ExV R (Tr.mk 12 op tx v nm [x, lo, hi, st] [] c d) [.int .i64 12, .int .i64 op, .string tx, .int .i64 v.kd, .bool v.nb, .slice ma v.ms.length mc, .int .u64 v.ub, .string v.tx, .slice ka v.kn kc, .slice sa 4 sc, .slice pa 0 pc]) (ho : Old R B w) (hBH : B ≤ H) (hm : MK w H bm bi bf q) (hq : q + ctE (Tr.mk 12 op tx v nm [x, lo, hi, st] [] c d) ≤ 8192) (ok : OkE (Tr.mk 12 op tx v nm [x, lo, hi, st] [] c d)) :
   Calls Tryz.prog 45 #[.pointer (some ⟨bm, 0, none⟩), .agg #[.int .i64 12, .int .i64 op, .string tx, .int .i64 v.kd, .bool v.nb, .slice ma v.ms.length mc, .int .u64 v.ub, .string v.tx, .slice ka v.kn kc, .slice sa 4 sc, .slice pa 0 pc]] w (MPost H bm bi bf q (ctE (Tr.mk 12 op tx v nm [x, lo, hi, st] [] c d)) (nmE (Tr.mk 12 op tx v nm [x, lo, hi, st] [] c d)) w) := by
 obtain ⟨W0, hW0⟩ : ∃ W0, W0 = w.alloc (.cells #[.int .i64 12, .int .i64 op, .string tx, .int .i64 v.kd, .bool v.nb, .slice ma v.ms.length mc, .int .u64 v.ub, .string v.tx, .slice ka v.kn kc, .slice sa 4 sc, .slice pa 0 pc] 75) := ⟨_, rfl⟩
 have hb0 : Below w.heap.size w W0 := by rw [hW0]; exact (Below.refl _ _).alloc (Nat.le_refl _) _
 have hl := hm.lts
 have hO0 : Old R B W0 := ho.below (hb0.mono (by omega))
 have MANY := Li (many_any vt ok hO0 (by have := hb0.size; omega))
 have HB0 := Li hb0
 have HM := Li hm
 have HO := Li ho
 have HV := Li vt
 have HIH := Li IH
 have HOK := Li ok
 have HQ := Li hq
 have HVR := Li hvr
 have HXA := Li hxa
 have HPA := Li hpa
 clear hb0 hO0 hm ho vt IH ok hq hvr hxa hpa
 subst hW0
 go_enter Tryz.func45, Tryz.ntmps45
 go_wp2_with fail
 refine MANY.out.mono ?_
 rintro e w1 ⟨rfl, hb1⟩
 clear MANY
 have WT := Li (want_any H bm bi bf q w1 ((HM.out.below HB0.out).below hb1))
 go_wp2_with fail
 refine WT.out.mono ?_
 rintro e w2 ⟨rfl, hs2, hm2⟩
 clear WT
 have HPOS := Li (pos_any H bm bi bf q w2 hm2)
 go_wp2_with fail
 refine HPOS.out.mono ?_
 rintro e w3 ⟨ln, rfl, hb3⟩
 clear HPOS
 obtain ⟨pb, hpb⟩ : ∃ pb, w3.heap.size = pb := ⟨_, rfl⟩
 obtain ⟨hst, hmp, he, hop, hz3⟩ := mex_head (L := [.int .i64 12, .int .i64 op, .string tx, .int .i64 v.kd, .bool v.nb, .slice ma v.ms.length mc, .int .u64 v.ub, .string v.tx, .slice ka v.kn kc, .slice sa 4 sc, .slice pa 0 pc]) (by decide) (by decide) (by decide) HM.out HO.out hBH hb1 hs2 hm2 hb3 (.cells #[.pointer (some ⟨bm, 0, none⟩), .int .i32 ln, .int .i32 1] 63)
 have hpk : Blk (w3.alloc (.cells #[.pointer (some ⟨bm, 0, none⟩), .int .i32 ln, .int .i32 1] 63)) pb 63 [.pointer (some ⟨bm, 0, none⟩), .int .i32 ln, .int .i32 1] := by rw [← hpb]; exact Blk.new w3 _ _
 have d0 := he.cell 0 (by simp)
 have d2 := he.cell 2 (by simp)
 have HST := Li hst
 have HMP := Li hmp
 have HE := Li he
 have HOP := Li hop
 have HPK := Li hpk
 clear hb1 hs2 hm2 hb3 hst hmp he hop hpk
 have CL : Hid (Calls Tryz.prog 48 #[.pointer (some ⟨bm, 0, none⟩), .agg #[.int .i64 12, .int .i64 op, .string tx, .int .i64 v.kd, .bool v.nb, .slice ma v.ms.length mc, .int .u64 v.ub, .string v.tx, .slice ka v.kn kc, .slice sa 4 sc, .slice pa 0 pc]] (w3.alloc (.cells #[.pointer (some ⟨bm, 0, none⟩), .int .i32 ln, .int .i32 1] 63)) (MPost H bm bi bf q (ctE (Tr.mk 12 op tx v nm [x, lo, hi, st] [] c d)) (nmE (Tr.mk 12 op tx v nm [x, lo, hi, st] [] c d)) (w3.alloc (.cells #[.pointer (some ⟨bm, 0, none⟩), .int .i32 ln, .int .i32 1] 63)))) := Li (by
   cases HOK.out with
   | many _ _ _ _ _ _ _ _ hk => omega
   | slice _ _ _ _ _ _ _ _ _ _ hx h1 h2 h3 => exact slice_any (HIH.out x (by simp; omega)) hx (fun t ht _ => HIH.out t (by have := List.sizeOf_lt_of_mem ht; simp at this ⊢; omega)) h1 h2 h3 op tx v nm c d _ (w3.alloc (.cells #[.pointer (some ⟨bm, 0, none⟩), .int .i32 ln, .int .i32 1] 63)) bi bf q HV.out HOP.out hBH HMP.out HQ.out)
 have d1 := HE.out.cell 1 (by simp)
 have d3 := HE.out.cell 3 (by simp)
 have d4 := HE.out.cell 4 (by simp)
 have d5 := HE.out.cell 5 (by simp)
 have d6 := HE.out.cell 6 (by simp)
 have d7 := HE.out.cell 7 (by simp)
 have d8 := HE.out.cell 8 (by simp)
 have d9 := HE.out.cell 9 (by simp)
 have d10 := HE.out.cell 10 (by simp)
 go_wp2_with fail
 refine CL.out.mono ?_
 rintro e w4 h4
 obtain ⟨T4, b4, rfl⟩ := h4.ret
 have FIN : Hid (MPost H bm bi bf q (ctE (Tr.mk 12 op tx v nm [x, lo, hi, st] [] c d)) (nmE (Tr.mk 12 op tx v nm [x, lo, hi, st] [] c d)) w (.returned (.iface T4 (.pointer (some ⟨b4, 0, none⟩)))) w4) := Li (by have := h4.pre HST.out; exact this)
 clear h4 CL
 go_wp2_with fail
 go_ret
 exact FIN.out
set_option maxHeartbeats 6400000 in
theorem mex_k14 {R : Nat → Nat → Option Value} {B H bm : Nat} (op : Int) (tx : ByteArray) (v : VV) (nm : List ByteArray) (f : Tr) (l : List Tr) (c d : List Tr) (ma ka sa pa : Option Addr) (mc kc sc pc : Nat) (w : World) (bi bf q : Nat) (IH : ∀ s, SizeOf.sizeOf s < SizeOf.sizeOf (Tr.mk 14 op tx v nm (f :: l) [] c d) → MEx R B H bm s) (hvr : VaR R v [.int .i64 v.kd, .bool v.nb, .slice ma v.ms.length mc, .int .u64 v.ub, .string v.tx, .slice ka v.kn kc]) (hxa : ExL R (f :: l) (.slice sa (l.length + 1) sc)) (hpa : PaL R [] (.slice pa 0 pc)) (vt : ExV R (Tr.mk 14 op tx v nm (f :: l) [] c d) [.int .i64 14, .int .i64 op, .string tx, .int .i64 v.kd, .bool v.nb, .slice ma v.ms.length mc, .int .u64 v.ub, .string v.tx, .slice ka v.kn kc, .slice sa (l.length + 1) sc, .slice pa 0 pc]) (ho : Old R B w) (hBH : B ≤ H) (hm : MK w H bm bi bf q) (hq : q + ctE (Tr.mk 14 op tx v nm (f :: l) [] c d) ≤ 8192) (ok : OkE (Tr.mk 14 op tx v nm (f :: l) [] c d)) :
   Calls Tryz.prog 45 #[.pointer (some ⟨bm, 0, none⟩), .agg #[.int .i64 14, .int .i64 op, .string tx, .int .i64 v.kd, .bool v.nb, .slice ma v.ms.length mc, .int .u64 v.ub, .string v.tx, .slice ka v.kn kc, .slice sa (l.length + 1) sc, .slice pa 0 pc]] w (MPost H bm bi bf q (ctE (Tr.mk 14 op tx v nm (f :: l) [] c d)) (nmE (Tr.mk 14 op tx v nm (f :: l) [] c d)) w) := by
 obtain ⟨W0, hW0⟩ : ∃ W0, W0 = w.alloc (.cells #[.int .i64 14, .int .i64 op, .string tx, .int .i64 v.kd, .bool v.nb, .slice ma v.ms.length mc, .int .u64 v.ub, .string v.tx, .slice ka v.kn kc, .slice sa (l.length + 1) sc, .slice pa 0 pc] 75) := ⟨_, rfl⟩
 have hb0 : Below w.heap.size w W0 := by rw [hW0]; exact (Below.refl _ _).alloc (Nat.le_refl _) _
 have hl := hm.lts
 have hO0 : Old R B W0 := ho.below (hb0.mono (by omega))
 have MANY := Li (many_any vt ok hO0 (by have := hb0.size; omega))
 have HB0 := Li hb0
 have HM := Li hm
 have HO := Li ho
 have HV := Li vt
 have HIH := Li IH
 have HOK := Li ok
 have HQ := Li hq
 have HVR := Li hvr
 have HXA := Li hxa
 have HPA := Li hpa
 clear hb0 hO0 hm ho vt IH ok hq hvr hxa hpa
 subst hW0
 go_enter Tryz.func45, Tryz.ntmps45
 go_wp2_with fail
 refine MANY.out.mono ?_
 rintro e w1 ⟨rfl, hb1⟩
 clear MANY
 have WT := Li (want_any H bm bi bf q w1 ((HM.out.below HB0.out).below hb1))
 go_wp2_with fail
 refine WT.out.mono ?_
 rintro e w2 ⟨rfl, hs2, hm2⟩
 clear WT
 have HPOS := Li (pos_any H bm bi bf q w2 hm2)
 go_wp2_with fail
 refine HPOS.out.mono ?_
 rintro e w3 ⟨ln, rfl, hb3⟩
 clear HPOS
 obtain ⟨pb, hpb⟩ : ∃ pb, w3.heap.size = pb := ⟨_, rfl⟩
 obtain ⟨hst, hmp, he, hop, hz3⟩ := mex_head (L := [.int .i64 14, .int .i64 op, .string tx, .int .i64 v.kd, .bool v.nb, .slice ma v.ms.length mc, .int .u64 v.ub, .string v.tx, .slice ka v.kn kc, .slice sa (l.length + 1) sc, .slice pa 0 pc]) (by decide) (by decide) (by decide) HM.out HO.out hBH hb1 hs2 hm2 hb3 (.cells #[.pointer (some ⟨bm, 0, none⟩), .int .i32 ln, .int .i32 1] 63)
 have hpk : Blk (w3.alloc (.cells #[.pointer (some ⟨bm, 0, none⟩), .int .i32 ln, .int .i32 1] 63)) pb 63 [.pointer (some ⟨bm, 0, none⟩), .int .i32 ln, .int .i32 1] := by rw [← hpb]; exact Blk.new w3 _ _
 have d0 := he.cell 0 (by simp)
 have d2 := he.cell 2 (by simp)
 have HST := Li hst
 have HMP := Li hmp
 have HE := Li he
 have HOP := Li hop
 have HPK := Li hpk
 clear hb1 hs2 hm2 hb3 hst hmp he hop hpk
 have CL : Hid (Calls Tryz.prog 49 #[.pointer (some ⟨bm, 0, none⟩), .agg #[.int .i64 14, .int .i64 op, .string tx, .int .i64 v.kd, .bool v.nb, .slice ma v.ms.length mc, .int .u64 v.ub, .string v.tx, .slice ka v.kn kc, .slice sa (l.length + 1) sc, .slice pa 0 pc]] (w3.alloc (.cells #[.pointer (some ⟨bm, 0, none⟩), .int .i32 ln, .int .i32 1] 63)) (MPost H bm bi bf q (ctE (Tr.mk 14 op tx v nm (f :: l) [] c d)) (nmE (Tr.mk 14 op tx v nm (f :: l) [] c d)) (w3.alloc (.cells #[.pointer (some ⟨bm, 0, none⟩), .int .i32 ln, .int .i32 1] 63)))) := Li (by
   cases HOK.out with
   | many _ _ _ _ _ _ _ _ hk => omega
   | two _ _ _ _ _ _ _ _ _ hk => omega
   | call _ _ _ _ _ _ _ _ hf h => exact call_any (HIH.out f (by simp; omega)) hf (fun t ht => ⟨fun _ => HIH.out t (by have := List.sizeOf_lt_of_mem ht; simp; omega), fun s hs _ => HIH.out s (by have := List.sizeOf_lt_of_mem ht; have := mem_a_lt hs; simp; omega)⟩) h (by have := len_le_ctEs (fun t ht => (h t ht).ct); have := HQ.out; rw [ctE_mk] at this; simp at this; omega) op tx v nm c d _ (w3.alloc (.cells #[.pointer (some ⟨bm, 0, none⟩), .int .i32 ln, .int .i32 1] 63)) bi bf q HV.out HOP.out hBH HMP.out HQ.out)
 have d1 := HE.out.cell 1 (by simp)
 have d3 := HE.out.cell 3 (by simp)
 have d4 := HE.out.cell 4 (by simp)
 have d5 := HE.out.cell 5 (by simp)
 have d6 := HE.out.cell 6 (by simp)
 have d7 := HE.out.cell 7 (by simp)
 have d8 := HE.out.cell 8 (by simp)
 have d9 := HE.out.cell 9 (by simp)
 have d10 := HE.out.cell 10 (by simp)
 go_wp2_with fail
 refine CL.out.mono ?_
 rintro e w4 h4
 obtain ⟨T4, b4, rfl⟩ := h4.ret
 have FIN : Hid (MPost H bm bi bf q (ctE (Tr.mk 14 op tx v nm (f :: l) [] c d)) (nmE (Tr.mk 14 op tx v nm (f :: l) [] c d)) w (.returned (.iface T4 (.pointer (some ⟨b4, 0, none⟩)))) w4) := Li (by have := h4.pre HST.out; exact this)
 clear h4 CL
 go_wp2_with fail
 go_ret
 exact FIN.out
def PlK (kd : Int) : Prop := kd ≠ 1 ∧ kd ≠ 2 ∧ kd ≠ 12 ∧ kd ≠ 14 ∧ kd ≠ 19 ∧ kd ≠ 20 ∧ kd ≠ 18 ∧ kd ≠ 5
theorem plain_all {H bm bi bf q lo cn : Nat} {kd op : Int} {tx : ByteArray} {v : VV} {nm : List ByteArray} {a b c d : List Tr} (ok : OkE (.mk kd op tx v nm a b c d)) (hk : PlK kd) (ma ka sa pa la : Option Addr) (mc kc sc pc lc : Nat) (vs : List Value) (w : World) (h : MK w H bm bi bf q) (hlo : lo ≤ w.heap.size) (hbl : bm < lo) (hrow : RowG (Gx w lo [bi, bf]) (.slice la a.length lc) vs) (hnds : Nds (Gx w lo [bi, bf]) vs (nmEs a) cn) (hcn : cn ≤ 3 * ctEs a) :
   Calls Tryz.prog 52 #[.pointer (some ⟨bm, 0, none⟩), .agg #[.int .i64 kd, .int .i64 op, .string tx, .int .i64 v.kd, .bool v.nb, .slice ma v.ms.length mc, .int .u64 v.ub, .string v.tx, .slice ka v.kn kc, .slice sa a.length sc, .slice pa b.length pc], .slice la a.length lc] w (fun e w' => ∃ cc, cc + 1 ≤ 3 * ctE (.mk kd op tx v nm a b c d) ∧ PlPost H bm bi bf q lo cc (nmE (.mk kd op tx v nm a b c d)) w e w') := by
 unfold PlK at hk
 cases ok with
 | many _ _ _ _ _ _ _ _ hk2 =>
   rcases hk2 with rfl | rfl
   · refine (plain_k3 a.length _ _ _ _ _ _ _ _ _ _ _ _ _ _ _ _ _ _ _ _ _ _ _ _ _ _ _ _ _ _ h hlo hrow hnds).mono fun e w' hp => ⟨cn + 1, ?_, ?_⟩ <;> simp [ctE_mk, nmE_mk]
     · omega
     · exact hp
   · refine (plain_k4 a.length _ _ _ _ _ _ _ _ _ _ _ _ _ _ _ _ _ _ _ _ _ _ _ _ _ _ _ _ _ _ h hlo hrow hnds).mono fun e w' hp => ⟨cn + 1, ?_, ?_⟩ <;> simp [ctE_mk, nmE_mk]
     · omega
     · exact hp
 | unary _ _ _ _ x _ _ h1 h2 =>
   refine (plain_k6 _ _ _ _ _ _ _ _ _ _ _ _ _ _ _ _ _ _ _ _ _ _ _ _ _ _ _ _ _ _ h hlo hrow hnds hbl (h1) (h2)).mono fun e w' hp => ⟨cn + 1, ?_, ?_⟩ <;> simp [ctE_mk, nmE_mk] at *
   · omega
   · exact hp
 | binary _ _ _ _ x y _ _ h1 h2 =>
   rcases Int.lt_or_le 12 op with h3 | h3
   · refine (plain_k7b _ _ _ _ _ _ _ _ _ _ _ _ _ _ _ _ _ _ _ _ _ _ _ _ _ _ _ _ _ _ h hlo hrow hnds hbl (by omega) (h2)).mono fun e w' hp => ⟨cn + 1, ?_, ?_⟩ <;> simp [ctE_mk, nmE_mk] at *
     · omega
     · exact hp
   · refine (plain_k7a _ _ _ _ _ _ _ _ _ _ _ _ _ _ _ _ _ _ _ _ _ _ _ _ _ _ _ _ _ _ h hlo hrow hnds hbl (h1) (h3)).mono fun e w' hp => ⟨cn + 1, ?_, ?_⟩ <;> simp [ctE_mk, nmE_mk] at *
     · omega
     · exact hp
 | two _ _ _ _ _ _ _ _ _ hk2 =>
   rcases hk2 with rfl | rfl | rfl
   · refine (plain_k8 _ _ _ _ _ _ _ _ _ _ _ _ _ _ _ _ _ _ _ _ _ _ _ _ _ _ _ _ _ _ h hlo hrow hnds).mono fun e w' hp => ⟨cn + 1, ?_, ?_⟩ <;> simp [ctE_mk, nmE_mk] at *
     · omega
     · exact hp
   · refine (plain_k9 _ _ _ _ _ _ _ _ _ _ _ _ _ _ _ _ _ _ _ _ _ _ _ _ _ _ _ _ _ _ h hlo hrow hnds).mono fun e w' hp => ⟨cn + 1, ?_, ?_⟩ <;> simp [ctE_mk, nmE_mk] at *
     · omega
     · exact hp
   · refine (plain_k11 _ _ _ _ _ _ _ _ _ _ _ _ _ _ _ _ _ _ _ _ _ _ _ _ _ _ _ _ _ _ h hlo hrow hnds).mono fun e w' hp => ⟨cn + 1, ?_, ?_⟩ <;> simp [ctE_mk, nmE_mk] at *
     · omega
     · exact hp
 | cond =>
   refine (plain_k10 _ _ _ _ _ _ _ _ _ _ _ _ _ _ _ _ _ _ _ _ _ _ _ _ _ _ _ _ _ _ h hlo hrow hnds).mono fun e w' hp => ⟨cn + 1, ?_, ?_⟩ <;> simp [ctE_mk, nmE_mk] at *
   · omega
   · exact hp
 | dot =>
   refine (plain_k13 _ _ _ _ _ _ _ _ _ _ _ _ _ _ _ _ _ _ _ _ _ _ _ _ _ _ _ _ _ _ h hlo hrow hnds).mono fun e w' hp => ⟨cn + 2, ?_, ?_⟩ <;> simp [ctE_mk, nmE_mk] at *
   · omega
   · exact hp
 | paren =>
   refine (plain_k23 _ _ _ _ _ _ _ _ _ _ _ _ _ _ _ _ _ _ _ _ _ _ _ _ _ _ _ _ _ _ h hlo hrow hnds).mono fun e w' hp => ⟨cn + 1, ?_, ?_⟩ <;> simp [ctE_mk, nmE_mk] at *
   · omega
   · exact hp
 | _ => simp at hk
set_option maxHeartbeats 6400000 in
theorem mex_rest {R : Nat → Nat → Option Value} {B H bm : Nat} (op : Int) (tx : ByteArray) (v : VV) (nm : List ByteArray) (kd : Int) (a b : List Tr) (hkk : PlK kd) (hall : ∀ t ∈ a, OkE t) (c d : List Tr) (ma ka sa pa : Option Addr) (mc kc sc pc : Nat) (w : World) (bi bf q : Nat) (IH : ∀ s, SizeOf.sizeOf s < SizeOf.sizeOf (Tr.mk kd op tx v nm a b c d) → MEx R B H bm s) (hvr : VaR R v [.int .i64 v.kd, .bool v.nb, .slice ma v.ms.length mc, .int .u64 v.ub, .string v.tx, .slice ka v.kn kc]) (hxa : ExL R a (.slice sa a.length sc)) (hpa : PaL R b (.slice pa b.length pc)) (vt : ExV R (Tr.mk kd op tx v nm a b c d) [.int .i64 kd, .int .i64 op, .string tx, .int .i64 v.kd, .bool v.nb, .slice ma v.ms.length mc, .int .u64 v.ub, .string v.tx, .slice ka v.kn kc, .slice sa a.length sc, .slice pa b.length pc]) (ho : Old R B w) (hBH : B ≤ H) (hm : MK w H bm bi bf q) (hq : q + ctE (Tr.mk kd op tx v nm a b c d) ≤ 8192) (ok : OkE (Tr.mk kd op tx v nm a b c d)) :
   Calls Tryz.prog 45 #[.pointer (some ⟨bm, 0, none⟩), .agg #[.int .i64 kd, .int .i64 op, .string tx, .int .i64 v.kd, .bool v.nb, .slice ma v.ms.length mc, .int .u64 v.ub, .string v.tx, .slice ka v.kn kc, .slice sa a.length sc, .slice pa b.length pc]] w (MPost H bm bi bf q (ctE (Tr.mk kd op tx v nm a b c d)) (nmE (Tr.mk kd op tx v nm a b c d)) w) := by
 obtain ⟨W0, hW0⟩ : ∃ W0, W0 = w.alloc (.cells #[.int .i64 kd, .int .i64 op, .string tx, .int .i64 v.kd, .bool v.nb, .slice ma v.ms.length mc, .int .u64 v.ub, .string v.tx, .slice ka v.kn kc, .slice sa a.length sc, .slice pa b.length pc] 75) := ⟨_, rfl⟩
 have hb0 : Below w.heap.size w W0 := by rw [hW0]; exact (Below.refl _ _).alloc (Nat.le_refl _) _
 have hl := hm.lts
 have hO0 : Old R B W0 := ho.below (hb0.mono (by omega))
 have MANY := Li (many_any vt ok hO0 (by have := hb0.size; omega))
 have HB0 := Li hb0
 have HM := Li hm
 have HO := Li ho
 have HV := Li vt
 have HIH := Li IH
 have HOK := Li ok
 have HQ := Li hq
 have HVR := Li hvr
 have HXA := Li hxa
 have HPA := Li hpa
 clear hb0 hO0 hm ho vt IH ok hq hvr hxa hpa
 subst hW0
 go_enter Tryz.func45, Tryz.ntmps45
 go_wp2_with fail
 refine MANY.out.mono ?_
 rintro e w1 ⟨rfl, hb1⟩
 clear MANY
 have WT := Li (want_any H bm bi bf q w1 ((HM.out.below HB0.out).below hb1))
 go_wp2_with fail
 refine WT.out.mono ?_
 rintro e w2 ⟨rfl, hs2, hm2⟩
 clear WT
 have HPOS := Li (pos_any H bm bi bf q w2 hm2)
 go_wp2_with fail
 refine HPOS.out.mono ?_
 rintro e w3 ⟨ln, rfl, hb3⟩
 clear HPOS
 obtain ⟨pb, hpb⟩ : ∃ pb, w3.heap.size = pb := ⟨_, rfl⟩
 obtain ⟨hst, hmp, he, hop, hz3⟩ := mex_head (L := [.int .i64 kd, .int .i64 op, .string tx, .int .i64 v.kd, .bool v.nb, .slice ma v.ms.length mc, .int .u64 v.ub, .string v.tx, .slice ka v.kn kc, .slice sa a.length sc, .slice pa b.length pc]) (by decide) (by decide) (by decide) HM.out HO.out hBH hb1 hs2 hm2 hb3 (.cells #[.pointer (some ⟨bm, 0, none⟩), .int .i32 ln, .int .i32 1] 63)
 have hpk : Blk (w3.alloc (.cells #[.pointer (some ⟨bm, 0, none⟩), .int .i32 ln, .int .i32 1] 63)) pb 63 [.pointer (some ⟨bm, 0, none⟩), .int .i32 ln, .int .i32 1] := by rw [← hpb]; exact Blk.new w3 _ _
 have d0 := he.cell 0 (by simp)
 have d2 := he.cell 2 (by simp)
 have HST := Li hst
 have HMP := Li hmp
 have HE := Li he
 have HOP := Li hop
 have HPK := Li hpk
 clear hb1 hs2 hm2 hb3 hst hmp he hop hpk
 obtain ⟨n1, n2, n12, n14, n19, n20, n18, n5⟩ := hkk
 have HE : Hid (Blk (w3.alloc (.cells #[.pointer (some ⟨bm, 0, none⟩), .int .i32 ln, .int .i32 1] 63)).drew w.heap.size 75 [.int .i64 kd, .int .i64 op, .string tx, .int .i64 v.kd, .bool v.nb, .slice ma v.ms.length mc, .int .u64 v.ub, .string v.tx, .slice ka v.kn kc, .slice sa a.length sc, .slice pa b.length pc]) := HE
 have KS : Hid (∀ W, Blk W w.heap.size 75 [.int .i64 kd, .int .i64 op, .string tx, .int .i64 v.kd, .bool v.nb, .slice ma v.ms.length mc, .int .u64 v.ub, .string v.tx, .slice ka v.kn kc, .slice sa a.length sc, .slice pa b.length pc] → W.cell? ⟨w.heap.size, 0, none⟩ = some (.int .i64 kd) ∧ W.cell? ⟨w.heap.size, 1, none⟩ = some (.int .i64 op) ∧ W.cell? ⟨w.heap.size, 2, none⟩ = some (.string tx) ∧ W.cell? ⟨w.heap.size, 3, none⟩ = some (.int .i64 v.kd) ∧ W.cell? ⟨w.heap.size, 4, none⟩ = some (.bool v.nb) ∧ W.cell? ⟨w.heap.size, 5, none⟩ = some (.slice ma v.ms.length mc) ∧ W.cell? ⟨w.heap.size, 6, none⟩ = some (.int .u64 v.ub) ∧ W.cell? ⟨w.heap.size, 7, none⟩ = some (.string v.tx) ∧ W.cell? ⟨w.heap.size, 8, none⟩ = some (.slice ka v.kn kc) ∧ W.cell? ⟨w.heap.size, 9, none⟩ = some (.slice sa a.length sc) ∧ W.cell? ⟨w.heap.size, 10, none⟩ = some (.slice pa b.length pc)) := Li (fun W h => ⟨h.cell 0 (by simp), h.cell 1 (by simp), h.cell 2 (by simp), h.cell 3 (by simp), h.cell 4 (by simp), h.cell 5 (by simp), h.cell 6 (by simp), h.cell 7 (by simp), h.cell 8 (by simp), h.cell 9 (by simp), h.cell 10 (by simp)⟩)
 have hml := HM.out.lts
 have hzs := HST.out.size
 have hctl : ctEs a ≤ ctE (Tr.mk kd op tx v nm a b c d) := by rw [ctE_mk]; omega
 have EX := Li (mexprs_of (fun t ht => HIH.out t (by have := List.sizeOf_lt_of_mem ht; simp; omega)) hall sa sc (w3.alloc (.cells #[.pointer (some ⟨bm, 0, none⟩), .int .i32 ln, .int .i32 1] 63)).drew bi bf q HXA.out HOP.out hBH HMP.out (by have := HQ.out; omega) (by have := len_le_ctEs (fun t ht => (hall t ht).ct); have := HQ.out; omega))
 have STEPD : Hid (∀ (w4 : World) (la : Option Addr) (lc : Nat) (vs : List Value) (cn bi' bf' : Nat), vs.length = a.length → Stp (w3.alloc (.cells #[.pointer (some ⟨bm, 0, none⟩), .int .i32 ln, .int .i32 1] 63)).drew.heap.size (w3.alloc (.cells #[.pointer (some ⟨bm, 0, none⟩), .int .i32 ln, .int .i32 1] 63)).drew w4 bm bi bf bi' bf' → MK w4 H bm bi' bf' (q + ctEs a) → RowG (Gx w4 (w3.alloc (.cells #[.pointer (some ⟨bm, 0, none⟩), .int .i32 ln, .int .i32 1] 63)).drew.heap.size [bi', bf']) (.slice la a.length lc) vs → Nds (Gx w4 (w3.alloc (.cells #[.pointer (some ⟨bm, 0, none⟩), .int .i32 ln, .int .i32 1] 63)).drew.heap.size [bi', bf']) vs (nmEs a) cn → cn ≤ 3 * ctEs a →
     Blk w4 w.heap.size 75 [.int .i64 kd, .int .i64 op, .string tx, .int .i64 v.kd, .bool v.nb, .slice ma v.ms.length mc, .int .u64 v.ub, .string v.tx, .slice ka v.kn kc, .slice sa a.length sc, .slice pa b.length pc] ∧ Calls Tryz.prog 52 #[.pointer (some ⟨bm, 0, none⟩), .agg #[.int .i64 kd, .int .i64 op, .string tx, .int .i64 v.kd, .bool v.nb, .slice ma v.ms.length mc, .int .u64 v.ub, .string v.tx, .slice ka v.kn kc, .slice sa a.length sc, .slice pa b.length pc], .slice la a.length lc] w4 (fun e w' => MPost H bm bi bf q (ctE (Tr.mk kd op tx v nm a b c d)) (nmE (Tr.mk kd op tx v nm a b c d)) w e w' ∧ Blk w' w.heap.size 75 [.int .i64 kd, .int .i64 op, .string tx, .int .i64 v.kd, .bool v.nb, .slice ma v.ms.length mc, .int .u64 v.ub, .string v.tx, .slice ka v.kn kc, .slice sa a.length sc, .slice pa b.length pc])) := Li (fun w4 la lc vs cn bi' bf' hvl hs4 hm4 hr4 hn4 hc4 => by
   obtain ⟨k1, k2, k3⟩ := HMP.out.ne HE.out (by decide) (by decide) (by decide)
   have hz4 := hs4.size
   have hsd : (w3.alloc (.cells #[.pointer (some ⟨bm, 0, none⟩), .int .i32 ln, .int .i32 1] 63)).drew.heap.size = (w3.alloc (.cells #[.pointer (some ⟨bm, 0, none⟩), .int .i32 ln, .int .i32 1] 63)).heap.size := rfl
   have he4 := (hs4.blk HE.out HE.out.lt k1 k2 k3).1
   obtain ⟨j1, j2, j3⟩ := hm4.ne he4 (by decide) (by decide) (by decide)
   refine ⟨he4, (plain_all HOK.out ⟨n1, n2, n12, n14, n19, n20, n18, n5⟩ ma ka sa pa la mc kc sc pc lc vs w4 hm4 hz4 (by omega) hr4 hn4 hc4).mono fun e w' ⟨cc, hcc, T5, b5, he5, hs5, hm5, hn5⟩ => ?_⟩
   exact ⟨⟨T5, b5, cc, bi', bf', he5, (HST.out.drew.trans (hs4.mono hzs)).trans (hs5.mono (by omega)), hm5.mono (by omega), hn5.mono (Gx.le (w' := w') (ex' := [bi', bf']) hzs fun b _ _ h3 => ⟨h3, rfl⟩), hcc⟩, (hs5.blk he4 he4.lt j1 j2 j3).1⟩)
 go_upto_region 34 with fail
 go_region_held3 (fun W => W.cell? ⟨w.heap.size, 0, none⟩ = some (.int .i64 kd) ∧ W.cell? ⟨w.heap.size, 1, none⟩ = some (.int .i64 op) ∧ W.cell? ⟨w.heap.size, 2, none⟩ = some (.string tx) ∧ W.cell? ⟨w.heap.size, 3, none⟩ = some (.int .i64 v.kd) ∧ W.cell? ⟨w.heap.size, 4, none⟩ = some (.bool v.nb) ∧ W.cell? ⟨w.heap.size, 5, none⟩ = some (.slice ma v.ms.length mc) ∧ W.cell? ⟨w.heap.size, 6, none⟩ = some (.int .u64 v.ub) ∧ W.cell? ⟨w.heap.size, 7, none⟩ = some (.string v.tx) ∧ W.cell? ⟨w.heap.size, 8, none⟩ = some (.slice ka v.kn kc) ∧ W.cell? ⟨w.heap.size, 9, none⟩ = some (.slice sa a.length sc) ∧ W.cell? ⟨w.heap.size, 10, none⟩ = some (.slice pa b.length pc)) (with_reducible first | exact KS.out _ HE.out | exact KS.out _ HE4.out | exact KS.out _ HE5.out)
   ((first
     | (go_at_call 40; (with_reducible refine EX.out.mono ?_); rintro e w4 ⟨la, lc, vs, cn, bi4, bf4, rfl, hvl, hs4, hm4, hr4, hn4, hc4⟩; obtain ⟨he4, pl⟩ := STEPD.out w4 la lc vs cn bi4 bf4 hvl hs4 hm4 hr4 hn4 hc4; have HE4 := Li he4; have PL := Li pl; clear hvl hs4 hm4 hr4 hn4 hc4 he4 pl)
     | (go_at_call 52; (with_reducible refine PL.out.mono ?_); rintro e w5 ⟨h5, he5⟩; obtain ⟨T5, b5, rfl⟩ := h5.ret; have FIN := Li h5; have HE5 := Li he5; clear h5 he5)
     | fail))
 go_wp2_with fail
 go_ret
 exact FIN.out
end Go.Proofs.YtoojgjhfmmohbaaGreat
