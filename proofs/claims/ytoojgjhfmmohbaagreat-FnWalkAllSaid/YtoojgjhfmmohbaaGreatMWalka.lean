/- syntax.Walk's closure: its four variables, what each call of it does. syntax.Walk: what it does at a node; walkStmts (printed by genwkwalk.py). -/
import Derived.Test.YtoojgjhfmmohbaaGreatWkMk2
import Derived.Test.YtoojgjhfmmohbaaGreatMNamesa
import Derived.Test.YtoojgjhfmmohbaaGreatWkPl
namespace Go.Proofs.YtoojgjhfmmohbaaGreat
open Go.RowKit Dig
set_option linter.unusedVariables false
set_option linter.unusedSimpArgs false
set_option maxRecDepth 100000
theorem ta_no {S E T : TypeId} (hS : ∀ w, (underlying S).run Tryz.prog w = .ok (.pointer E) w) (hz : ∀ w, (zeroValue S).run Tryz.prog w = .ok (.pointer none) w) (h : T ≠ S) (p : Option Addr) (w : World) : (Instr.typeAssert (.iface T (.pointer p)) 55 S true).run Tryz.prog w = .ok (.tuple #[.pointer none, .bool false]) w := by
 simp [Instr.typeAssert, go_sem, hS, hz, h]
theorem ta_yes {S E : TypeId} (hS : ∀ w, (underlying S).run Tryz.prog w = .ok (.pointer E) w) (p : Option Addr) (w : World) : (Instr.typeAssert (.iface S (.pointer p)) 55 S true).run Tryz.prog w = .ok (.tuple #[.pointer p, .bool true]) w := by
 simp [Instr.typeAssert, go_sem, hS]
theorem taN (T S E : TypeId) (b : Nat) (hS : ∀ w, (underlying S).run Tryz.prog w = .ok (.pointer E) w := by intro w; kernel_rfl) (hz : ∀ w, (zeroValue S).run Tryz.prog w = .ok (.pointer none) w := by intro w; kernel_rfl) (h : T ≠ S := by decide) : ∀ w, (Instr.typeAssert (.iface T (.pointer (some ⟨b, 0, none⟩))) 55 S true).run Tryz.prog w = .ok (.tuple #[.pointer none, .bool false]) w := fun w => ta_no hS hz h _ w
theorem taY (S E : TypeId) (b : Nat) (hS : ∀ w, (underlying S).run Tryz.prog w = .ok (.pointer E) w := by intro w; kernel_rfl) : ∀ w, (Instr.typeAssert (.iface S (.pointer (some ⟨b, 0, none⟩))) 55 S true).run Tryz.prog w = .ok (.tuple #[.pointer (some ⟨b, 0, none⟩), .bool true]) w := fun w => ta_yes hS _ w
structure WStp (hi eb nb sb : Nat) (W W' : World) : Prop where
 os : W'.os = W.os
 tape : W'.tape = W.tape
 output : W'.output = W.output
 size : W.heap.size ≤ W'.heap.size
 block : ∀ b, b < hi → b ≠ eb → b ≠ nb → b ≠ sb → W'.heap[b]? = W.heap[b]?
structure CS (lo hi eb nb sb fb : Nat) (ns : List ByteArray) (n e : Nat) (v : Value) (W : World) : Prop where
 he : Blk W eb 3 [.int .i64 (e : Int)]
 hn : Blk W nb 3 [.int .i64 (n : Int)]
 hs : Blk W sb 30 [v]
 hf : Blk W fb 3 [.int .i64 (-1)]
 ho : W.ownsRow hi 9 1 v ns.length (ns.map .string)
 hl : eb < lo ∧ nb < lo ∧ sb < lo ∧ fb < lo ∧ lo ≤ hi ∧ hi ≤ W.heap.size
 ne : eb ≠ nb ∧ eb ≠ fb ∧ nb ≠ fb
 hb : ns.length ≤ n
def Hold (G : Nat → Option Obj) (lo hi : Nat) (W : World) : Prop := ∀ b o, G b = some o → lo ≤ b ∧ b < hi ∧ W.heap[b]? = some o
section
variable {lo hi eb nb sb fb : Nat} {ns : List ByteArray} {n e : Nat} {v : Value} {W W' W2 : World} {G : Nat → Option Obj}
theorem WStp.refl (W : World) : WStp hi eb nb sb W W := ⟨rfl, rfl, rfl, Nat.le_refl _, fun _ _ _ _ _ => rfl⟩
theorem WStp.trans (h : WStp hi eb nb sb W W') (k : WStp hi eb nb sb W' W2) : WStp hi eb nb sb W W2 :=
 ⟨k.os.trans h.os, k.tape.trans h.tape, k.output.trans h.output, Nat.le_trans h.size k.size, fun b h1 h2 h3 h4 => (k.block b h1 h2 h3 h4).trans (h.block b h1 h2 h3 h4)⟩
theorem WStp.drew (h : WStp hi eb nb sb W W') : WStp hi eb nb sb W W'.drew := ⟨h.os, h.tape, h.output, h.size, h.block⟩
theorem WStp.set {b : Nat} (u : Value) (hb : b = eb ∨ b = nb ∨ b = sb) : WStp hi eb nb sb W (W.setCell ⟨b, 0, none⟩ u) :=
 ⟨rfl, rfl, rfl, by simp [World.setCell], fun c _ h2 h3 h4 => Below.heap_setCell W ⟨b, 0, none⟩ u c (by show c ≠ b; rintro rfl; rcases hb with rfl | rfl | rfl <;> contradiction)⟩
theorem Hold.step (h : Hold G lo hi W) (hs : WStp hi eb nb sb W W') (h1 : eb < lo) (h2 : nb < lo) (h3 : sb < lo) : Hold G lo hi W' := fun b o hb => by
 obtain ⟨k1, k2, k3⟩ := h b o hb
 exact ⟨k1, k2, (hs.block b k2 (by omega) (by omega) (by omega)).trans k3⟩
theorem own_set {base ty m b i : Nat} {r u : Value} {xs : List Value} (h : W.ownsRow base ty 1 r m xs) (hb : b < base) : (W.setCell ⟨b, i, none⟩ u).ownsRow base ty 1 r m xs := by
 have hg : W.grownBy (W.setCell ⟨b, i, none⟩ u) (some b) := ⟨rfl, rfl, rfl, by simp [World.setCell], fun c _ hne => Below.heap_setCell W ⟨b, i, none⟩ u c (fun e => hne (by rw [e]))⟩
 refine h.kept hg ?_
 rcases h.2 with ⟨rfl, _⟩ | ⟨g, cap, cur, rfl, hg, _⟩
 · exact .inl rfl
 · right; intro e; simp only [Value.ownBlock, Option.some.injEq] at e; omega
theorem CS.end_ (h : CS lo hi eb nb sb fb ns n e v W) : CS lo hi eb nb sb fb ns n (e + 1) v (W.setCell ⟨eb, 0, none⟩ (.int .i64 ((e : Int) + 1))) := by
 obtain ⟨l1, l2, l3, l4, l5, l6⟩ := h.hl
 have hes : eb ≠ sb := by rintro rfl; exact absurd (h.he.inj h.hs).1 (by decide)
 exact ⟨by have := h.he.set 0 (.int .i64 ((e : Int) + 1)); simpa using this, h.hn.far h.ne.1.symm _, h.hs.far hes.symm _, h.hf.far h.ne.2.1.symm _, own_set h.ho (by omega), ⟨l1, l2, l3, l4, l5, by simpa [World.setCell] using l6⟩, h.ne, h.hb⟩
theorem CS.node (h : CS lo hi eb nb sb fb ns n e v W) : CS lo hi eb nb sb fb ns (n + 1) e v (W.setCell ⟨nb, 0, none⟩ (.int .i64 ((n : Int) + 1))) := by
 obtain ⟨l1, l2, l3, l4, l5, l6⟩ := h.hl
 have hes : nb ≠ sb := by rintro rfl; exact absurd (h.hn.inj h.hs).1 (by decide)
 exact ⟨h.he.far h.ne.1 _, by have := h.hn.set 0 (.int .i64 ((n : Int) + 1)); simpa using this, h.hs.far hes.symm _, h.hf.far h.ne.2.2.symm _, own_set h.ho (by omega), ⟨l1, l2, l3, l4, l5, by simpa [World.setCell] using l6⟩, h.ne, by have := h.hb; omega⟩
theorem CS.name (h : CS lo hi eb nb sb fb ns n e v W) {W2 W3 : World} {v3 : Value} {tx : ByteArray} (hb : Below W.heap.size W W2) (ho : W3.ownsRow hi 9 1 v3 (ns.length + 1) (ns.map .string ++ [.string tx])) (hg : W2.grownBy W3 v.ownBlock) (hlt : ns.length < n) :
   CS lo hi eb nb sb fb (ns ++ [tx]) n e v3 (W3.setCell ⟨sb, 0, none⟩ v3) ∧ WStp hi eb nb sb W (W3.setCell ⟨sb, 0, none⟩ v3) ∧ Blk W3 sb 30 [v] ∧ Blk W3 fb 3 [.int .i64 (-1)] := by
 obtain ⟨l1, l2, l3, l4, l5, l6⟩ := h.hl
 have OW2 := own_below h.ho hb
 have k : ∀ {b ty} {L : List Value}, Blk W b ty L → ty ≠ 9 → Blk W3 b ty L := fun hk hne => (hk.below hb hk.lt).far_own OW2 hne hg
 have he3 := k h.he (by decide)
 have hn3 := k h.hn (by decide)
 have hs3 := k h.hs (by decide)
 have hf3 := k h.hf (by decide)
 have hes : eb ≠ sb := by rintro rfl; exact absurd (h.he.inj h.hs).1 (by decide)
 have hns : nb ≠ sb := by rintro rfl; exact absurd (h.hn.inj h.hs).1 (by decide)
 have hfs : fb ≠ sb := by rintro rfl; exact absurd (h.hf.inj h.hs).1 (by decide)
 have z1 := hb.size
 have z2 := hg.size
 refine ⟨⟨he3.far hes _, hn3.far hns _, by have := hs3.set 0 v3; simpa using this, hf3.far hfs _, own_set (by simpa using ho) (by omega), ⟨l1, l2, l3, l4, l5, by simp [World.setCell]; omega⟩, h.ne, by simp; omega⟩, ?_, hs3, hf3⟩
 refine ⟨hg.os.trans hb.os, hg.tape.trans hb.tape, hg.output.trans hb.output, by simp [World.setCell]; omega, fun b h1 h2 h3 h4 => ?_⟩
 rw [Below.heap_setCell W3 ⟨sb, 0, none⟩ v3 b h4, hg.block b (by omega) (fun e => by have := (OW2.lt b e.symm).1; omega), hb.block b (by omega)]
end
def CloPost (r : Bool) (lo hi eb nb sb fb : Nat) (ns : List ByteArray) (n e : Nat) (W : World) (x : Ending) (W' : World) : Prop := x = .returned (.bool r) ∧ WStp hi eb nb sb W W' ∧ ∃ v, CS lo hi eb nb sb fb ns n e v W'
set_option maxHeartbeats 1600000 in
theorem clo_nil (lo hi eb nb sb fb : Nat) (ns : List ByteArray) (n e : Nat) (v : Value) (W : World) (h : CS lo hi eb nb sb fb ns n e v W) (hq : e ≤ 1000000) :
   Calls Tryz.prog 18 #[.nilIface, .pointer (some ⟨eb, 0, none⟩), .pointer (some ⟨nb, 0, none⟩), .pointer (some ⟨sb, 0, none⟩), .pointer (some ⟨fb, 0, none⟩)] W (CloPost false lo hi eb nb sb fb ns n (e + 1) W) := by
 have c1 := h.he.cell 0 (by simp)
 have f1 := h.he.free 0
 have l1 := h.he.lt
 have FIN : Hid (CloPost false lo hi eb nb sb fb ns n (e + 1) W (.returned (.bool false)) (W.setCell ⟨eb, 0, none⟩ (.int .i64 ((e : Int) + 1)))) := Li ⟨rfl, WStp.set _ (.inl rfl), v, h.end_⟩
 clear h
 go_enter Tryz.func18, Tryz.ntmps18
 go_wp2_with fail
 go_ret
 exact FIN.out
set_option maxHeartbeats 1600000 in
theorem clo_node (lo hi eb nb sb fb : Nat) (ns : List ByteArray) (n e : Nat) (v : Value) (T b : Nat) (hT : T ≠ 56) (W : World) (h : CS lo hi eb nb sb fb ns n e v W) (hq : n ≤ 1000000) :
   Calls Tryz.prog 18 #[.iface T (.pointer (some ⟨b, 0, none⟩)), .pointer (some ⟨eb, 0, none⟩), .pointer (some ⟨nb, 0, none⟩), .pointer (some ⟨sb, 0, none⟩), .pointer (some ⟨fb, 0, none⟩)] W (CloPost true lo hi eb nb sb fb ns (n + 1) e W) := by
 have c1 := h.hn.cell 0 (by simp)
 have f1 := h.hn.free 0
 have l1 := h.hn.lt
 have c2 := (h.node.hf).cell 0 (by simp)
 have FIN : Hid (CloPost true lo hi eb nb sb fb ns (n + 1) e W (.returned (.bool true)) (W.setCell ⟨nb, 0, none⟩ (.int .i64 ((n : Int) + 1)))) := Li ⟨rfl, WStp.set _ (.inr (.inl rfl)), v, h.node⟩
 have hta : ∀ w, (Instr.typeAssert (.iface T (.pointer (some ⟨b, 0, none⟩))) 55 56 true).run Tryz.prog w = .ok (.tuple #[.pointer none, .bool false]) w := fun w => ta_no (E := 65) (fun w => by kernel_rfl) (fun w => by kernel_rfl) hT _ w
 clear h hT
 go_enter Tryz.func18, Tryz.ntmps18
 go_wp2_with fail
 go_ret
 exact FIN.out
set_option maxHeartbeats 1600000 in
theorem clo_ident (lo hi eb nb sb fb : Nat) (ns : List ByteArray) (n e : Nat) (v : Value) (b : Nat) (L : List Value) (tx : ByteArray) (W : World) (h : CS lo hi eb nb sb fb ns n e v W) (hk : Blk W b 65 L) (h4 : L[4]? = some (.string tx)) (hq : n ≤ 1000000) :
   Calls Tryz.prog 18 #[.iface 56 (.pointer (some ⟨b, 0, none⟩)), .pointer (some ⟨eb, 0, none⟩), .pointer (some ⟨nb, 0, none⟩), .pointer (some ⟨sb, 0, none⟩), .pointer (some ⟨fb, 0, none⟩)] W (CloPost true lo hi eb nb sb fb (ns ++ [tx]) (n + 1) e W) := by
 obtain ⟨iS, hiS, hzS, hsS, hbS⟩ := info_parts infoStr
 obtain ⟨va, vc, rfl⟩ := own_form h.ho
 have c1 := h.hn.cell 0 (by simp)
 have f1 := h.hn.free 0
 have l1 := h.hn.lt
 have hbn : b ≠ nb := by rintro rfl; exact absurd (hk.inj h.hn).1 (by decide)
 have hbl : ns.length ≤ n := h.hb
 have h1 := h.node
 obtain ⟨W1, hW1⟩ : ∃ W1, W1 = W.setCell ⟨nb, 0, none⟩ (.int .i64 ((n : Int) + 1)) := ⟨_, rfl⟩
 rw [← hW1] at h1
 have hk1 : Blk W1 b 65 L := by rw [hW1]; exact hk.far hbn _
 have hst1 : WStp hi eb nb sb W W1 := by rw [hW1]; exact WStp.set _ (.inr (.inl rfl))
 have n4 : W1.cell? ⟨b, 4, none⟩ = some (.string tx) := by
   rw [hk1.cell 4 (List.getElem?_eq_some_iff.1 h4).1, List.getD_eq_getElem?_getD, h4]; rfl
 have s0 : W1.cell? ⟨sb, 0, none⟩ = some (.slice va ns.length vc) := h1.hs.cell 0 (by simp)
 have s0a : (W1.alloc (.cells #[.string tx] 9)).cell? ⟨sb, 0, none⟩ = some (.slice va ns.length vc) := (h1.hs.alloc _).cell 0 (by simp)
 obtain ⟨W2, hW2⟩ : ∃ W2, W2 = (W1.alloc (.cells #[.string tx] 9)).drew := ⟨_, rfl⟩
 have hb2 : Below W1.heap.size W1 W2 := by rw [hW2]; exact ((Below.refl _ _).alloc (Nat.le_refl _) _).drew
 have OW2 := Li (own_below h1.ho hb2)
 have SL2 : Hid (Sl W2 (W1.heap.size + 1) (.slice (some ⟨W1.heap.size, 0, none⟩) 1 1) [.string tx]) := Li (by rw [hW2]; exact Sl.one _ _ _ rfl)
 have HHI : Hid (hi ≤ W2.heap.size) := Li (by have := h1.hl; have := hb2.size; omega)
 have FIN : Hid (∀ v3 W3, W3.ownsRow hi 9 1 v3 (ns.length + 1) (ns.map .string ++ [.string tx]) → W2.grownBy W3 (Value.slice va ns.length vc).ownBlock → CloPost true lo hi eb nb sb fb (ns ++ [tx]) (n + 1) e W (.returned (.bool true)) (W3.setCell ⟨sb, 0, none⟩ v3) ∧ W3.frozen? ⟨sb, 0, none⟩ = false ∧ W3.cell? ⟨sb, 0, none⟩ = some (.slice va ns.length vc) ∧ sb < W3.heap.size ∧ (W3.setCell ⟨sb, 0, none⟩ v3).cell? ⟨fb, 0, none⟩ = some (.int .i64 (-1))) := Li (fun v3 W3 g1 g2 => by
   obtain ⟨p1, p2, p3, p4⟩ := h1.name hb2 g1 g2 (by omega)
   exact ⟨⟨rfl, hst1.trans p2, v3, p1⟩, p3.free 0, p3.cell 0 (by simp), p3.lt, p1.hf.cell 0 (by simp)⟩)
 have hta : ∀ w, (Instr.typeAssert (.iface 56 (.pointer (some ⟨b, 0, none⟩))) 55 56 true).run Tryz.prog w = .ok (.tuple #[.pointer (some ⟨b, 0, none⟩), .bool true]) w := fun w => ta_yes (E := 65) (fun w => by kernel_rfl) _ w
 clear h hk h1 hk1 hst1 hb2 hbn
 have n4d : W1.drew.cell? ⟨b, 4, none⟩ = some (.string tx) := n4
 have s0d : W1.drew.cell? ⟨sb, 0, none⟩ = some (.slice va ns.length vc) := s0
 subst hW2
 subst hW1
 go_enter Tryz.func18, Tryz.ntmps18
 go_wp2_with fail
 go_region_law (refine step_append_to _ rfl (.tmp 21) (.tmp 26) 30 rfl hi 9 iS _ 16 Tryz.underlying30 hiS hzS hsS hbS rfl (.slice va ns.length vc) ns.length _ (by simp [Act.eval, Act.put]) OW2.out _ _ _ (by simp [Act.eval, Act.put]) SL2.out (by intro u hu; simp at hu; subst hu; rfl) (by unfold maxLen; simp; omega) (by simp; omega) HHI.out ?_; intro v3 W3 g1 g2 g3; obtain ⟨fs, r1, r2, r3, r4⟩ := FIN.out v3 W3 g1 g2; have FS := Li fs; obtain ⟨a4, k4, hv4⟩ := own_form (show W3.ownsRow hi 9 1 v3 (ns.length + 1) _ from g1); subst hv4; clear g1 g2 g3 fs)
 all_goals
   go_wp2_with fail
   go_ret
   exact FS.out
def WkP (lo hi eb nb sb fb : Nat) (ns : List ByteArray) (n e : Nat) (nn : List ByteArray) (c : Nat) (W : World) (x : Ending) (W' : World) : Prop :=
 x = .returned (.tuple #[]) ∧ WStp hi eb nb sb W W' ∧ ∃ u, CS lo hi eb nb sb fb (ns ++ nn) (n + c) (e + c) u W'
def WkC (G : Nat → Option Obj) (lo hi eb nb sb fb : Nat) (v : Value) (nn : List ByteArray) (c : Nat) : Prop := ∀ (W : World) (ns : List ByteArray) (n e : Nat) (u : Value), Hold G lo hi W → CS lo hi eb nb sb fb ns n e u W → n + c ≤ 1000000 → e + c ≤ 1000000 →
 Calls Tryz.prog 17 #[v, .func (.func 18) #[] #[.pointer (some ⟨eb, 0, none⟩), .pointer (some ⟨nb, 0, none⟩), .pointer (some ⟨sb, 0, none⟩), .pointer (some ⟨fb, 0, none⟩)]] W (WkP lo hi eb nb sb fb ns n e nn c W)
theorem CS.cast {lo hi eb nb sb fb : Nat} {ns ns' : List ByteArray} {n n' e e' : Nat} {v : Value} {W : World} (h : CS lo hi eb nb sb fb ns n e v W) (h1 : ns = ns') (h2 : n = n') (h3 : e = e') : CS lo hi eb nb sb fb ns' n' e' v W := by subst h1; subst h2; subst h3; exact h
theorem Nds.split {G : Nat → Option Obj} {l m : List Value} {ns : List ByteArray} {c : Nat} (h : Nds G (l ++ m) ns c) : ∃ n1 n2 c1 c2, Nds G l n1 c1 ∧ Nds G m n2 c2 ∧ ns = n1 ++ n2 ∧ c = c1 + c2 := by
 induction l generalizing ns c with
 | nil => exact ⟨[], ns, 0, c, .nil, h, rfl, by omega⟩
 | cons v l ih =>
   cases h with
   | cons _ _ a b c1 c2 h1 h2 =>
     obtain ⟨n1, n2, d1, d2, k1, k2, rfl, rfl⟩ := ih h2
     exact ⟨a ++ n1, n2, c1 + d1, d2, .cons _ _ _ _ _ _ h1 k1, k2, by rw [List.append_assoc], by omega⟩
theorem Hold.blk {G : Nat → Option Obj} {lo hi b : Nat} {W : World} {E : TypeId} {L : List Value} (h : Hold G lo hi W) (hG : G b = some (.cells L.toArray E (0, 0))) : Blk W b E L := (h b _ hG).2.2
theorem Blk.at {W : World} {b i : Nat} {E : TypeId} {L : List Value} {v : Value} (h : Blk W b E L) (hv : L[i]? = some v) : W.cell? ⟨b, i, none⟩ = some v := by
 rw [h.cell i (List.getElem?_eq_some_iff.1 hv).1, List.getD_eq_getElem?_getD, hv]; rfl
theorem RowG.row {G : Nat → Option Obj} {v : Value} {vs : List Value} (h : RowG G v vs) : ∃ a c, v = .slice a vs.length c ∧ vs.length ≤ c ∧ c ≤ maxLen ∧ (vs ≠ [] → ∃ b, a = some ⟨b, 0, none⟩ ∧ ∀ lo hi W, Hold G lo hi W → ∀ i x, vs[i]? = some x → W.cell? ⟨b, i, none⟩ = some x) := by
 obtain ⟨a, c, hv, hc, hm, hr⟩ := h
 refine ⟨a, c, hv, hc, hm, fun hne => ?_⟩
 obtain ⟨b, cur, E, rfl, hb, ht⟩ := hr hne
 refine ⟨b, rfl, fun lo hi W hW i x hx => ?_⟩
 have hk : Blk W b E cur.toList := by have := (hW b _ hb).2.2; unfold Blk; simpa using this
 have hl := (List.getElem?_eq_some_iff.1 hx).1
 refine hk.at ?_
 rw [← hx, ← ht, List.getElem?_take, if_pos hl]
def WLRel (G : Nat → Option Obj) (lo hi eb nb sb fb : Nat) (ns : List ByteArray) (n e : Nat) (nn : List ByteArray) (c : Nat) (vs : List Value) (W : World) (i : Value) (wr : World) : Prop :=
 ∃ (k : Nat) (n1 n2 : List ByteArray) (c1 c2 : Nat) (u : Value), k ≤ vs.length ∧ i = .int .i64 (k : Int) ∧ Hid (Nds G (vs.drop k) n2 c2) ∧ Hid (nn = n1 ++ n2) ∧ Hid (c = c1 + c2) ∧ Hid (WStp hi eb nb sb W wr) ∧ Hid (CS lo hi eb nb sb fb (ns ++ n1) (n + c1) (e + c1) u wr)
theorem WLRel.start {G : Nat → Option Obj} {lo hi eb nb sb fb : Nat} {ns : List ByteArray} {n e : Nat} {nn : List ByteArray} {c : Nat} {vs : List Value} {W : World} {u : Value} (h : Nds G vs nn c) (hcs : CS lo hi eb nb sb fb ns n e u W) : WLRel G lo hi eb nb sb fb ns n e nn c vs W (.int .i64 0) W :=
 ⟨0, [], nn, 0, c, u, Nat.zero_le _, rfl, Li h, Li rfl, Li (by omega), Li (WStp.refl _), Li (hcs.cast (by simp) rfl rfl)⟩
theorem WLRel.step {G : Nat → Option Obj} {lo hi eb nb sb fb : Nat} {ns : List ByteArray} {n e : Nat} {nn : List ByteArray} {c : Nat} {vs : List Value} {W wr w2 : World} {k : Nat} {n1 n2 m1 m2 : List ByteArray} {c1 d1 d2 : Nat} {u : Value} (hk : k < vs.length) (hn2 : n2 = m1 ++ m2) (hn : nn = n1 ++ n2) (hc : c = c1 + (d1 + d2)) (hs : WStp hi eb nb sb W wr) (hr : Nds G (vs.drop (k + 1)) m2 d2)
   (hs2 : WStp hi eb nb sb wr w2) (hcs : CS lo hi eb nb sb fb (ns ++ n1 ++ m1) (n + c1 + d1) (e + c1 + d1) u w2) : WLRel G lo hi eb nb sb fb ns n e nn c vs W (.int .i64 ((k : Int) + 1)) w2 :=
 ⟨k + 1, n1 ++ m1, m2, c1 + d1, d2, u, hk, by simp, Li hr, Li (by rw [hn, hn2, List.append_assoc]), Li (by omega), Li (hs.trans hs2), Li (hcs.cast (by rw [List.append_assoc]) (by omega) (by omega))⟩
theorem WLRel.next {G : Nat → Option Obj} {vs : List Value} {n2 : List ByteArray} {c2 k : Nat} {v : Value} (hv : vs[k]? = some v) (h : Nds G (vs.drop k) n2 c2) : ∃ m1 m2 d1 d2, Nd G v m1 d1 ∧ Nds G (vs.drop (k + 1)) m2 d2 ∧ n2 = m1 ++ m2 ∧ c2 = d1 + d2 := by
 have hl := (List.getElem?_eq_some_iff.1 hv)
 rw [List.drop_eq_getElem_cons hl.1, hl.2] at h
 cases h with
 | cons _ _ a b c1 d1 h1 h2 => exact ⟨a, b, c1, d1, h1, h2, rfl, rfl⟩
theorem WLRel.fin {G : Nat → Option Obj} {lo hi eb nb sb fb : Nat} {ns : List ByteArray} {n e : Nat} {nn : List ByteArray} {c : Nat} {vs : List Value} {W wr : World} {n1 n2 : List ByteArray} {c1 c2 : Nat} {u : Value} (h : Nds G (vs.drop vs.length) n2 c2) (hn : nn = n1 ++ n2) (hc : c = c1 + c2) (hs : WStp hi eb nb sb W wr) (hcs : CS lo hi eb nb sb fb (ns ++ n1) (n + c1) (e + c1) u wr) : WStp hi eb nb sb W wr ∧ CS lo hi eb nb sb fb (ns ++ nn) (n + c) (e + c) u wr := by
 rw [List.drop_length] at h
 cases h
 exact ⟨hs, hcs.cast (by rw [hn]; simp) (by omega) (by omega)⟩
set_option maxHeartbeats 3200000 in
theorem walkStmts_of {G : Nat → Option Obj} {lo hi eb nb sb fb : Nat} (C : Nat) (IH : ∀ v nn c, c ≤ C → Nd G v nn c → WkC G lo hi eb nb sb fb v nn c) (v : Value) (vs : List Value) (nn : List ByteArray) (c : Nat) (hr : RowG G v vs) (hnds : Nds G vs nn c) (hC : c ≤ C) (W : World) (ns : List ByteArray) (n e : Nat) (u : Value) (hh : Hold G lo hi W) (hcs : CS lo hi eb nb sb fb ns n e u W) (hq1 : n + c ≤ 1000000) (hq2 : e + c ≤ 1000000) :
   Calls Tryz.prog 25 #[v, .func (.func 18) #[] #[.pointer (some ⟨eb, 0, none⟩), .pointer (some ⟨nb, 0, none⟩), .pointer (some ⟨sb, 0, none⟩), .pointer (some ⟨fb, 0, none⟩)]] W (WkP lo hi eb nb sb fb ns n e nn c W) := by
 obtain ⟨a, cc, rfl, hc0, hm0, hrow⟩ := hr.row
 unfold maxLen at hm0
 have START := Li (WLRel.start hnds hcs)
 have HL := Li hcs.hl
 have HH := Li hh
 have HI := Li IH
 have HR := Li hrow
 clear hr hnds hcs hh IH hrow
 go_enter Tryz.func25, Tryz.ntmps25
 go_wp2_with fail
 go_loopw [8] (WLRel G lo hi eb nb sb fb ns n e nn c vs W) (fun i _ => vs.length - (intOf i).toNat)
 case atStart => exact START.out
 case round =>
   obtain ⟨k, n8, n9, c8, c9, u1, hk, rfl, HNDS, HN, HC, HST, HCS⟩ := hrel
   clear START
   by_cases hlt : k < vs.length
   · obtain ⟨x, hx⟩ : ∃ x, vs[k]? = some x := ⟨_, List.getElem?_eq_getElem hlt⟩
     obtain ⟨rb, rfl, hcell⟩ := HR.out (by intro h; rw [h] at hlt; simp at hlt)
     obtain ⟨m8, m9, d8, d9, hnd, hrest, hn9, hc9⟩ := WLRel.next hx HNDS.out
     obtain ⟨q1, q2, q3, _⟩ := HL.out
     have hhr := HH.out.step HST.out q1 q2 q3
     have x0 := hcell _ _ _ hhr k x hx
     have CX := Li (HI.out x m8 d8 (by have := HC.out; omega) hnd wr _ _ _ _ hhr HCS.out (by have := HC.out; omega) (by have := HC.out; omega))
     have ST : Hid (∀ w8 u8, WStp hi eb nb sb wr w8 → CS lo hi eb nb sb fb (ns ++ n8 ++ m8) (n + c8 + d8) (e + c8 + d8) u8 w8 → WLRel G lo hi eb nb sb fb ns n e nn c vs W (.int .i64 ((k : Int) + 1)) w8) := Li (fun w8 u8 h1 h2 => WLRel.step hlt hn9 HN.out (by have := HC.out; omega) HST.out hrest h1 h2)
     clear hx hcell hnd hrest hn9 hc9 hhr HNDS HN HC HST HCS
     go_wp2_with fail
     refine CX.out.mono ?_
     rintro x8 w8 ⟨rfl, hs8, u8, hcs8⟩
     have FS := Li (ST.out w8 u8 hs8 hcs8)
     clear CX ST hs8 hcs8
     go_wp2_with fail
     go_roundw
     case rel => first | exact FS.out | ((repeat apply Exists.intro); exact ⟨FS.out, rfl⟩)
     case measure => simp [intOf]; omega
   · obtain rfl : k = vs.length := by omega
     obtain ⟨f1, f2⟩ := WLRel.fin HNDS.out HN.out HC.out HST.out HCS.out
     have FIN : Hid (WkP lo hi eb nb sb fb ns n e nn c W (.returned (.tuple #[])) wr) := Li ⟨rfl, f1, _, f2⟩
     clear HNDS HN HC HST HCS f1 f2
     go_wp2_with fail
     first
       | go_end0
       | refine bodyPost_ret (results_none rfl _ _ _) rfl ?_
     exact FIN.out
end Go.Proofs.YtoojgjhfmmohbaaGreat
