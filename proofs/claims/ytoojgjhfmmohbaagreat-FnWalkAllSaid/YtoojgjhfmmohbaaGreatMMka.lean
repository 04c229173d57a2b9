/- Syntax trees in memory: what a walk comes to under a node; the memory that nodes lie in. The maker: its six cells, what a method of its may turn; pos, want, ident. The maker: want, ident. -/
import Derived.Test.YtoojgjhfmmohbaaGreatMFita
import Derived.Test.YtoojgjhfmmohbaaGreatMApp
namespace Go.Proofs.YtoojgjhfmmohbaaGreat
open Go.RowKit Dig
set_option linter.unusedVariables false
set_option linter.unusedSimpArgs false
set_option maxRecDepth 100000
inductive Kd where
 | x | o | n | s
def tbl : List (TypeId × TypeId × List (Nat × Kd)) :=
 [(91, 95, [(1, .x)]),
  (96, 183, []),
  (97, 99, [(4, .x), (5, .s), (9, .s)]),
  (100, 104, [(5, .x), (6, .x)]),
  (105, 108, [(4, .n), (8, .s), (12, .s)]),
  (109, 111, [(4, .x), (5, .x), (6, .s)]),
  (112, 114, [(4, .x), (5, .s)]),
  (115, 117, [(4, .o)]),
  (119, 190, []),
  (122, 124, [(4, .s)]),
  (125, 127, [(4, .x)]),
  (128, 130, [(4, .x), (5, .x), (9, .x)]),
  (131, 133, [(1, .x), (5, .x)]),
  (134, 136, [(1, .x), (5, .x)]),
  (137, 139, [(1, .x), (5, .o), (6, .o), (7, .o)]),
  (140, 142, [(5, .x), (6, .s)]),
  (143, 145, [(4, .x)]),
  (146, 148, [(4, .x), (8, .x)]),
  (149, 151, [(4, .s)]),
  (152, 154, [(4, .s)]),
  (155, 157, [(5, .o)]),
  (158, 160, [(1, .x), (6, .x)]),
  (161, 163, [(1, .x), (8, .n)]),
  (164, 166, [(1, .x), (5, .s)]),
  (167, 169, [(4, .s), (5, .x)])]
def RowG (G : Nat → Option Obj) (v : Value) (vs : List Value) : Prop :=
 ∃ a c, v = .slice a vs.length c ∧ vs.length ≤ c ∧ c ≤ maxLen ∧ (vs ≠ [] → ∃ b cur e, a = some ⟨b, 0, none⟩ ∧ G b = some (.cells cur e (0, 0)) ∧ cur.toList.take vs.length = vs)
inductive Ch (G : Nat → Option Obj) (L : List Value) : List (Nat × Kd) → List Value → Prop
 | nil : Ch G L [] []
 | x (i : Nat) (v : Value) (sl : List (Nat × Kd)) (ch : List Value) (h : L[i]? = some v) (hr : Ch G L sl ch) : Ch G L ((i, .x) :: sl) (v :: ch)
 | none (i : Nat) (sl : List (Nat × Kd)) (ch : List Value) (h : L[i]? = some .nilIface) (hr : Ch G L sl ch) : Ch G L ((i, .o) :: sl) ch
 | some (i : Nat) (v : Value) (sl : List (Nat × Kd)) (ch : List Value) (h : L[i]? = some v) (hr : Ch G L sl ch) : Ch G L ((i, .o) :: sl) (v :: ch)
 | n (i : Nat) (p : Option Addr) (sl : List (Nat × Kd)) (ch : List Value) (h : L[i]? = some (.pointer p)) (hr : Ch G L sl ch) : Ch G L ((i, .n) :: sl) (.iface 56 (.pointer p) :: ch)
 | s (i : Nat) (v : Value) (vs : List Value) (sl : List (Nat × Kd)) (ch : List Value) (h : L[i]? = some v) (hv : RowG G v vs) (hr : Ch G L sl ch) : Ch G L ((i, .s) :: sl) (vs ++ ch)
mutual
inductive Nd (G : Nat → Option Obj) : Value → List ByteArray → Nat → Prop
 | ident (b : Nat) (L : List Value) (tx : ByteArray) (hG : G b = some (.cells L.toArray 65 (0, 0))) (h4 : L[4]? = some (.string tx)) : Nd G (.iface 56 (.pointer (some ⟨b, 0, none⟩))) [tx] 1
 | node (T e : TypeId) (sl : List (Nat × Kd)) (hT : (T, e, sl) ∈ tbl) (b : Nat) (L : List Value) (hG : G b = some (.cells L.toArray e (0, 0))) (ch : List Value) (hch : Ch G L sl ch) (ns : List ByteArray) (c : Nat) (h : Nds G ch ns c) : Nd G (.iface T (.pointer (some ⟨b, 0, none⟩))) ns (c + 1)
inductive Nds (G : Nat → Option Obj) : List Value → List ByteArray → Nat → Prop
 | nil : Nds G [] [] 0
 | cons (v : Value) (l : List Value) (n1 n2 : List ByteArray) (c1 c2 : Nat) (h1 : Nd G v n1 c1) (h2 : Nds G l n2 c2) : Nds G (v :: l) (n1 ++ n2) (c1 + c2)
end
def GLe (G G' : Nat → Option Obj) : Prop := ∀ b o, G b = some o → G' b = some o
section
variable {G G' : Nat → Option Obj}
theorem RowG.mono {v : Value} {vs : List Value} (h : RowG G v vs) (hG : GLe G G') : RowG G' v vs := by
 obtain ⟨a, c, hv, hc, hm, hr⟩ := h
 refine ⟨a, c, hv, hc, hm, fun hne => ?_⟩
 obtain ⟨b, cur, e, ha, hb, ht⟩ := hr hne
 exact ⟨b, cur, e, ha, hG _ _ hb, ht⟩
theorem Ch.mono {L : List Value} {sl : List (Nat × Kd)} {ch : List Value} (h : Ch G L sl ch) (hG : GLe G G') : Ch G' L sl ch := by
 induction h with
 | nil => exact .nil
 | x i v sl ch h _ ih => exact .x i v sl ch h ih
 | none i sl ch h _ ih => exact .none i sl ch h ih
 | some i v sl ch h _ ih => exact .some i v sl ch h ih
 | n i p sl ch h _ ih => exact .n i p sl ch h ih
 | s i v vs sl ch h hv _ ih => exact .s i v vs sl ch h (hv.mono hG) ih
theorem Nd.mono {v : Value} {ns : List ByteArray} {c : Nat} (h : Nd G v ns c) (hG : GLe G G') : Nd G' v ns c :=
 Nd.rec (motive_1 := fun v ns c _ => Nd G' v ns c) (motive_2 := fun l ns c _ => Nds G' l ns c)
   (fun b L tx hb h4 => .ident b L tx (hG _ _ hb) h4)
   (fun T e sl hT b L hb ch hch ns c _ ih => .node T e sl hT b L (hG _ _ hb) ch (hch.mono hG) ns c ih)
   .nil
   (fun v l n1 n2 c1 c2 _ _ ih1 ih2 => .cons v l n1 n2 c1 c2 ih1 ih2) h
theorem Nds.mono {l : List Value} {ns : List ByteArray} {c : Nat} (h : Nds G l ns c) (hG : GLe G G') : Nds G' l ns c :=
 Nds.rec (motive_1 := fun v ns c _ => Nd G' v ns c) (motive_2 := fun l ns c _ => Nds G' l ns c)
   (fun b L tx hb h4 => .ident b L tx (hG _ _ hb) h4)
   (fun T e sl hT b L hb ch hch ns c _ ih => .node T e sl hT b L (hG _ _ hb) ch (hch.mono hG) ns c ih)
   .nil
   (fun v l n1 n2 c1 c2 _ _ ih1 ih2 => .cons v l n1 n2 c1 c2 ih1 ih2) h
theorem Nds.append {l m : List Value} {n1 n2 : List ByteArray} {c1 c2 : Nat} (h : Nds G l n1 c1) (k : Nds G m n2 c2) : Nds G (l ++ m) (n1 ++ n2) (c1 + c2) := by
 induction l generalizing n1 c1 with
 | nil => cases h; simpa using k
 | cons v l ih =>
   cases h with
   | cons _ _ a b c d h1 h2 =>
     have := Nds.cons v (l ++ m) a (b ++ n2) c (d + c2) h1 (ih h2)
     simpa [List.append_assoc, Nat.add_assoc] using this
theorem Nds.one {v : Value} {ns : List ByteArray} {c : Nat} (h : Nd G v ns c) : Nds G [v] ns c := by simpa using Nds.cons v [] ns [] c 0 h .nil
theorem RowG.nil (a : Option Addr) (c : Nat) (hm : c ≤ maxLen) : RowG G (.slice a 0 c) [] := ⟨a, c, rfl, Nat.zero_le _, hm, fun h => absurd rfl h⟩
end
def Gx (w : World) (lo : Nat) (ex : List Nat) : Nat → Option Obj := fun b => if lo ≤ b ∧ b ∉ ex then w.heap[b]? else none
theorem heap_lt {w : World} {b : Nat} {o : Obj} (h : w.heap[b]? = some o) : b < w.heap.size := by
 rcases Nat.lt_or_ge b w.heap.size with hlt | hge
 · exact hlt
 · rw [Array.getElem?_eq_none hge] at h; cases h
theorem Gx.le {w w' : World} {lo lo' : Nat} {ex ex' : List Nat} (hlo : lo' ≤ lo) (h : ∀ b, lo ≤ b → b < w.heap.size → b ∉ ex → b ∉ ex' ∧ w'.heap[b]? = w.heap[b]?) : GLe (Gx w lo ex) (Gx w' lo' ex') := by
 intro b o hb
 unfold Gx at hb ⊢
 split at hb
 · rename_i hc
   have h2 := h b hc.1 (heap_lt hb) hc.2
   rw [if_pos ⟨Nat.le_trans hlo hc.1, h2.1⟩, h2.2]
   exact hb
 · cases hb
theorem Gx.of {w : World} {lo b : Nat} {ex : List Nat} {e : TypeId} {L : List Value} (h : Blk w b e L) (hlo : lo ≤ b) (hex : b ∉ ex) : Gx w lo ex b = some (.cells L.toArray e (0, 0)) := by
 unfold Gx
 rw [if_pos ⟨hlo, hex⟩]
 exact h
theorem RowG.of_rr {w : World} {base e lo : Nat} {v : Value} {xs : List Value} {ex : List Nat} (h : w.ownsRow base e 1 v xs.length xs) (hlo : ∀ k, v.ownBlock = some k → lo ≤ k ∧ k ∉ ex) : RowG (Gx w lo ex) v xs := by
 rcases h.2 with ⟨rfl, h0⟩ | ⟨g, cap, cur, rfl, hb, hh, hn, hcm, hs, ht⟩
 · exact ⟨none, 0, by rw [h0], by omega, Nat.zero_le _, fun hne => absurd (List.eq_nil_of_length_eq_zero h0) hne⟩
 · refine ⟨_, cap, rfl, hn, hcm, fun _ => ⟨g, cur, e, rfl, ?_, by simpa using ht⟩⟩
   obtain ⟨h1, h2⟩ := hlo g rfl
   unfold Gx
   rw [if_pos ⟨h1, h2⟩]
   exact hh
structure Stp (S : Nat) (w w' : World) (bm bi bf bi' bf' : Nat) : Prop where
 os : w'.os = w.os
 tape : w'.tape = w.tape
 output : w'.output = w.output
 size : w.heap.size ≤ w'.heap.size
 block : ∀ b, b < S → b ≠ bm → b ≠ bi → b ≠ bf → w'.heap[b]? = w.heap[b]?
 hi : bi' = bi ∨ S ≤ bi'
 hf : bf' = bf ∨ S ≤ bf'
def MK (w : World) (H bm bi bf q : Nat) : Prop :=
 ∃ (name : ByteArray) (cnt line : Int) (vi vf : Value) (ni nf : Nat) (xi xf : List Value), Blk w bm 83 [.string name, .int .i32 cnt, .int .i32 line, vi, vf, .bool false] ∧ w.ownsRow H 56 1 vi ni xi ∧ w.ownsRow H 55 1 vf nf xf ∧ (ni ≤ q ∧ nf ≤ q ∧ 0 ≤ cnt ∧ cnt ≤ q ∧ 0 ≤ line ∧ line ≤ q) ∧
   (vi.ownBlock = some bi ∨ (vi.ownBlock = none ∧ bi = bm)) ∧ (vf.ownBlock = some bf ∨ (vf.ownBlock = none ∧ bf = bm)) ∧ H ≤ bm
section
variable {w w' w2 : World} {H bm bi bf bi' bf' bi2 bf2 q : Nat}
theorem Stp.refl (S : Nat) (w : World) (bm bi bf : Nat) : Stp S w w bm bi bf bi bf := ⟨rfl, rfl, rfl, Nat.le_refl _, fun _ _ _ _ _ => rfl, .inl rfl, .inl rfl⟩
theorem Stp.trans {S : Nat} (h : Stp S w w' bm bi bf bi' bf') (k : Stp S w' w2 bm bi' bf' bi2 bf2) : Stp S w w2 bm bi bf bi2 bf2 := by
 refine ⟨k.os.trans h.os, k.tape.trans h.tape, k.output.trans h.output, Nat.le_trans h.size k.size, fun b hb h1 h2 h3 => ?_, ?_, ?_⟩
 · rw [k.block b hb h1 (by rcases h.hi with e | e <;> omega) (by rcases h.hf with e | e <;> omega)]
   exact h.block b hb h1 h2 h3
 · rcases k.hi with e | e
   · rw [e]; exact h.hi
   · right; exact e
 · rcases k.hf with e | e
   · rw [e]; exact h.hf
   · right; exact e
theorem Stp.mono {S S' : Nat} (h : Stp S w w' bm bi bf bi' bf') (hS : S' ≤ S) : Stp S' w w' bm bi bf bi' bf' :=
 ⟨h.os, h.tape, h.output, h.size, fun b hb => h.block b (by omega), by rcases h.hi with e | e <;> omega, by rcases h.hf with e | e <;> omega⟩
theorem Stp.of_below {S : Nat} (h : Below S w w') : Stp S w w' bm bi bf bi bf := ⟨h.os, h.tape, h.output, h.size, fun b hb _ _ _ => h.block b hb, .inl rfl, .inl rfl⟩
theorem Stp.alloc {S : Nat} (h : Stp S w w' bm bi bf bi' bf') (hS : S ≤ w.heap.size) (o : Obj) : Stp S w (w'.alloc o) bm bi bf bi' bf' := h.trans (Stp.of_below ((Below.refl _ _).alloc (Nat.le_trans hS h.size) _))
theorem Stp.drew {S : Nat} (h : Stp S w w' bm bi bf bi' bf') : Stp S w w'.drew bm bi bf bi' bf' := ⟨h.os, h.tape, h.output, h.size, h.block, h.hi, h.hf⟩
theorem Stp.below {S : Nat} (h : Stp S w w' bm bi bf bi' bf') (h1 : H ≤ bm) (h2 : H ≤ bi) (h3 : H ≤ bf) (hs : H ≤ S) : Below H w w' :=
 ⟨h.os, h.tape, h.output, h.size, fun b hb => h.block b (by omega) (by omega) (by omega) (by omega)⟩
theorem Stp.blk {S : Nat} (h : Stp S w w' bm bi bf bi' bf') {b : Nat} {e : TypeId} {L : List Value} (hk : Blk w b e L) (hb : b < S) (h1 : b ≠ bm) (h2 : b ≠ bi) (h3 : b ≠ bf) : Blk w' b e L ∧ b ≠ bi' ∧ b ≠ bf' :=
 ⟨(h.block b hb h1 h2 h3).trans hk, by rcases h.hi with e | e <;> omega, by rcases h.hf with e | e <;> omega⟩
theorem Stp.own {S : Nat} (h : Stp S w w' bm bi bf bi' bf') {base e n : Nat} {v : Value} {xs : List Value} (hk : w.ownsRow base e 1 v n xs) (hne : ∀ k, v.ownBlock = some k → k < S ∧ k ≠ bm ∧ k ≠ bi ∧ k ≠ bf) : w'.ownsRow base e 1 v n xs := by
 rcases hk.2 with h0 | ⟨g, cap, cur, rfl, hb, hg, rest⟩
 · exact ⟨hk.1, .inl h0⟩
 · obtain ⟨h0, h1, h2, h3⟩ := hne g rfl
   exact ⟨hk.1, .inr ⟨g, cap, cur, rfl, hb, (h.block g h0 h1 h2 h3).trans hg, rest⟩⟩
theorem Gx.stp (h : Stp w.heap.size w w' bm bi bf bi' bf') {lo : Nat} (hlo : bm < lo) (ex : List Nat) : GLe (Gx w lo (bi :: bf :: ex)) (Gx w' lo (bi' :: bf' :: ex)) := Gx.le (Nat.le_refl _) fun b h1 h2 h3 => by
 simp only [List.mem_cons, not_or] at h3 ⊢
 exact ⟨⟨by rcases h.hi with e | e <;> omega, by rcases h.hf with e | e <;> omega, h3.2.2⟩, h.block b h2 (by omega) h3.1 h3.2.1⟩
theorem MK.lts (h : MK w H bm bi bf q) : H ≤ bm ∧ H ≤ bi ∧ H ≤ bf ∧ bm < w.heap.size ∧ bi < w.heap.size ∧ bf < w.heap.size := by
 obtain ⟨_, _, _, vi, vf, _, _, _, _, hk, hi, hf, _, h1, h2, hH⟩ := h
 have := hk.lt
 refine ⟨hH, ?_, ?_, this, ?_, ?_⟩
 · rcases h1 with h1 | ⟨_, rfl⟩
   · exact (hi.lt _ h1).1
   · exact hH
 · rcases h2 with h2 | ⟨_, rfl⟩
   · exact (hf.lt _ h2).1
   · exact hH
 · rcases h1 with h1 | ⟨_, rfl⟩
   · exact (hi.lt _ h1).2
   · exact this
 · rcases h2 with h2 | ⟨_, rfl⟩
   · exact (hf.lt _ h2).2
   · exact this
theorem MK.mono (h : MK w H bm bi bf q) {q' : Nat} (hq : q ≤ q') : MK w H bm bi bf q' := by
 obtain ⟨nm, cnt, line, vi, vf, ni, nf, xi, xf, hk, hi, hf, hb, h1, h2, hH⟩ := h
 exact ⟨nm, cnt, line, vi, vf, ni, nf, xi, xf, hk, hi, hf, by omega, h1, h2, hH⟩
theorem MK.below (h : MK w H bm bi bf q) (hb : Below w.heap.size w w') : MK w' H bm bi bf q := by
 obtain ⟨nm, cnt, line, vi, vf, ni, nf, xi, xf, hk, hi, hf, hq, h1, h2, hH⟩ := h
 exact ⟨nm, cnt, line, vi, vf, ni, nf, xi, xf, hk.below hb hk.lt, own_below hi hb, own_below hf hb, hq, h1, h2, hH⟩
theorem MK.drewN (h : MK w H bm bi bf q) (n : Nat) : MK (w.drewN n) H bm bi bf q := h
theorem MK.drew (h : MK w H bm bi bf q) : MK w.drew H bm bi bf q := h
theorem MK.alloc (h : MK w H bm bi bf q) (o : Obj) : MK (w.alloc o) H bm bi bf q := h.below ((Below.refl _ _).alloc (Nat.le_refl _) _)
end
def PosPost (bm : Nat) (w : World) (e : Ending) (w' : World) : Prop := ∃ ln : Int, e = .returned (.agg #[.pointer (some ⟨bm, 0, none⟩), .int .i32 ln, .int .i32 1]) ∧ Below w.heap.size w w'
set_option maxHeartbeats 800000 in
theorem makePos_any (a : Option Addr) (x y : Int) (w : World) : Calls Tryz.prog 41 #[.pointer a, .int .i32 x, .int .i32 y] w fun e w' => e = .returned (.agg #[.pointer a, .int .i32 x, .int .i32 y]) ∧ Below w.heap.size w w' := by
 have HB : Hid (∀ o, Below w.heap.size w (w.alloc o)) := Li (fun o => (Below.refl _ _).alloc (Nat.le_refl _) _)
 go_enter Tryz.func41, Tryz.ntmps41
 go_wp2_with fail
 exact bodyPost_ret (v := .agg #[.pointer a, .int .i32 x, .int .i32 y]) (by simp [results, Tryz.results41, go_sem]) rfl ⟨rfl, HB.out _⟩
set_option maxHeartbeats 800000 in
theorem pos_any (H bm bi bf q : Nat) (w : World) (h : MK w H bm bi bf q) : Calls Tryz.prog 35 #[.pointer (some ⟨bm, 0, none⟩)] w (PosPost bm w) := by
 obtain ⟨nm, cnt, line, vi, vf, ni, nf, xi, xf, hk, hi, hf, hq, h1, h2, hH⟩ := h
 have hl := hk.lt
 have HK := Li hk
 have HB : Hid (Below w.heap.size w (w.alloc (.cells #[.pointer none, .int .i32 0, .int .i32 0] 63))) := Li ((Below.refl _ _).alloc (Nat.le_refl _) _)
 have EB : Hid (Blk (w.alloc (.cells #[.pointer none, .int .i32 0, .int .i32 0] 63)).drew w.heap.size 63 [.pointer none, .int .i32 0, .int .i32 0]) := Li (Blk.new w _ _)
 have HL : Hid ((w.alloc (.cells #[.pointer none, .int .i32 0, .int .i32 0] 63)).drew.cell? ⟨bm, 2, none⟩ = some (.int .i32 line)) := Li ((hk.alloc _).cell 2 (by simp))
 have KS : Hid (∀ (W : World) x y z v, W.cell? ⟨bm, 2, none⟩ = some v → (((W.setCell ⟨w.heap.size, 0, none⟩ x).setCell ⟨w.heap.size, 1, none⟩ y).setCell ⟨w.heap.size, 2, none⟩ z).cell? ⟨bm, 2, none⟩ = some v) := Li (fun W x y z v h => by
   have hne : bm ≠ w.heap.size := by omega
   rw [World.cell?_of_block (a := ⟨bm, 2, none⟩) (Below.heap_setCell _ _ _ bm hne), World.cell?_of_block (a := ⟨bm, 2, none⟩) (Below.heap_setCell _ _ _ bm hne), World.cell?_of_block (a := ⟨bm, 2, none⟩) (Below.heap_setCell _ _ _ bm hne)]
   exact h)
 clear hk hi hf hq h1 h2
 go_enter Tryz.func35, Tryz.ntmps35
 go_wp2_with fail
 go_region_held3 (fun w' => w'.cell? ⟨bm, 2, none⟩ = some (.int .i32 line)) (with_reducible first | exact HL.out | exact KS.out _ _ _ _ _ HL.out)
   ((go_at_call 41; (with_reducible refine (makePos_any _ _ _ _).mono ?_); rintro e w3 ⟨rfl, hb3⟩; have HL := Li ((hb3.cell (p := ⟨bm, 2, none⟩) (by simp; omega)).trans HL.out); have eb := EB.out.below hb3 EB.out.lt; have q0 := eb.cell 0 (by simp); have q1 := eb.cell 1 (by simp); have q2 := eb.cell 2 (by simp); have f0 := eb.free 0; have f1 := eb.free 1; have f2 := eb.free 2; have HB3 := Li hb3; clear eb hb3))
 have hb4 : Below w.heap.size w (((w3.setCell ⟨w.heap.size, 0, none⟩ (.pointer (some ⟨bm, 0, none⟩))).setCell ⟨w.heap.size, 1, none⟩ (.int .i32 line)).setCell ⟨w.heap.size, 2, none⟩ (.int .i32 1)) := (((HB.out.drew.trans (Below.mono (B' := w.heap.size) HB3.out (by simp))).setCell (Nat.le_refl _) _).setCell (Nat.le_refl _) _).setCell (Nat.le_refl _) _
 go_wp2_with fail
 exact bodyPost_ret (v := .agg #[.pointer (some ⟨bm, 0, none⟩), .int .i32 line, .int .i32 1]) (by simp [results, Tryz.results35, go_sem, q0, q1, q2]) rfl ⟨line, rfl, hb4⟩
theorem infoId : (Tryz.prog.info? 56).map (fun i => (i.zero, i.size, i.bytes)) = some (some (.pointer none), 1, 8) := by kernel_rfl
theorem infoNode : (Tryz.prog.info? 55).map (fun i => (i.zero, i.size, i.bytes)) = some (some .nilIface, 1, 16) := by kernel_rfl
theorem own_form {w : World} {base e n : Nat} {v : Value} {xs : List Value} (h : w.ownsRow base e 1 v n xs) : ∃ a c, v = .slice a n c := by
 rcases h.2 with ⟨rfl, rfl⟩ | ⟨g, cap, cur, rfl, _⟩
 · exact ⟨_, _, rfl⟩
 · exact ⟨_, _, rfl⟩
theorem own_other {w : World} {b base e e' n : Nat} {v : Value} {xs L : List Value} (h : w.ownsRow base e 1 v n xs) (hk : Blk w b e' L) (hne : e' ≠ e) : v.ownBlock ≠ some b := by
 intro he
 rcases h.2 with ⟨rfl, _⟩ | ⟨g, cap, cur, rfl, _, hh, _⟩
 · simp [Value.ownBlock] at he
 · simp only [Value.ownBlock, Option.some.injEq] at he
   subst he
   unfold Blk at hk
   rw [hh] at hk
   injection hk with hk
   injection hk with _ h2
   exact hne h2.symm
theorem own_two {w : World} {base e e' n n' : Nat} {v v' : Value} {xs xs' : List Value} (h : w.ownsRow base e 1 v n xs) (h' : w.ownsRow base e' 1 v' n' xs') (hne : e ≠ e') : v'.ownBlock = none ∨ v'.ownBlock ≠ v.ownBlock := by
 rcases h'.2 with ⟨rfl, _⟩ | ⟨g, cap, cur, rfl, _, hh, _⟩
 · exact .inl rfl
 · right
   intro he
   exact own_other h (b := g) (e' := e') (L := cur.toList) (by unfold Blk; rw [hh]) (fun e0 => hne e0.symm) (by rw [← he]; rfl)
theorem MK.app_i {w w3 w4 : World} {H bm bi bf q : Nat} {name : ByteArray} {cnt line : Int} {vi vf v' : Value} {ni nf n' : Nat} {xi xf x' : List Value} (hb3 : Below w.heap.size w w3)
   (hk : Blk w bm 83 [.string name, .int .i32 cnt, .int .i32 line, vi, vf, .bool false]) (hi : w.ownsRow H 56 1 vi ni xi) (hf : w.ownsRow H 55 1 vf nf xf) (hq : ni ≤ q ∧ nf ≤ q ∧ 0 ≤ cnt ∧ cnt ≤ q ∧ 0 ≤ line ∧ line ≤ q)
   (h1 : vi.ownBlock = some bi ∨ (vi.ownBlock = none ∧ bi = bm)) (h2 : vf.ownBlock = some bf ∨ (vf.ownBlock = none ∧ bf = bm)) (hH : H ≤ bm) (hn : n' ≤ ni + 1)
   (hi4 : w4.ownsRow H 56 1 v' n' x') (hg : w3.grownBy w4 vi.ownBlock) (hv : v'.ownBlock = vi.ownBlock ∨ v'.ownBlock = some w3.heap.size) :
   ∃ bi', Stp w.heap.size w (w4.setCell ⟨bm, 3, none⟩ v') bm bi bf bi' bf ∧ MK (w4.setCell ⟨bm, 3, none⟩ v') H bm bi' bf (q + 1) ∧ ∀ b e L, w.heap.size ≤ b → Blk w3 b e L → Blk (w4.setCell ⟨bm, 3, none⟩ v') b e L ∧ b ≠ bi' ∧ b ≠ bf := by
 have hk3 := hk.below hb3 hk.lt
 have hi3 := own_below hi hb3
 have hf3 := own_below hf hb3
 have hk4 : Blk w4 bm 83 _ := hk3.far_own hi3 (by decide) hg
 have hf4 : w4.ownsRow H 55 1 vf nf xf := hf3.kept hg (own_two hi3 hf3 (by decide))
 have hl := hk.lt
 have hs3 := hb3.size
 have hs4 := hg.size
 have hk5 := hk4.set 3 v'
 have hset : ∀ b, b ≠ bm → (w4.setCell ⟨bm, 3, none⟩ v').heap[b]? = w4.heap[b]? := fun b hne => Below.heap_setCell w4 ⟨bm, 3, none⟩ v' b hne
 have hgs : w4.grownBy (w4.setCell ⟨bm, 3, none⟩ v') (some bm) := ⟨rfl, rfl, rfl, by simp [World.setCell], fun b _ hne => hset b (fun e => hne (by rw [e]))⟩
 have hi5 : (w4.setCell ⟨bm, 3, none⟩ v').ownsRow H 56 1 v' n' x' := hi4.kept hgs (.inr (own_other hi4 hk4 (by decide)))
 have hf5 : (w4.setCell ⟨bm, 3, none⟩ v').ownsRow H 55 1 vf nf xf := hf4.kept hgs (.inr (own_other hf4 hk4 (by decide)))
 have hbf : bf < w.heap.size := by
   rcases h2 with h2 | ⟨_, rfl⟩
   · exact (hf.lt _ h2).2
   · exact hl
 obtain ⟨bi', hbi, hov⟩ : ∃ bi', (bi' = bi ∨ w3.heap.size ≤ bi') ∧ (v'.ownBlock = some bi' ∨ (v'.ownBlock = none ∧ bi' = bm)) := by
   rcases hv with hv | hv
   · exact ⟨bi, .inl rfl, by rw [hv]; exact h1⟩
   · exact ⟨w3.heap.size, .inr (Nat.le_refl _), .inl hv⟩
 have hblk : ∀ b, b < w3.heap.size → b ≠ bm → b ≠ bi → (w4.setCell ⟨bm, 3, none⟩ v').heap[b]? = w3.heap[b]? := fun b hb hne hne2 => by
   rw [hset b hne, hg.block b hb (fun e => by
     rcases h1 with h1 | ⟨h1, _⟩
     · rw [h1] at e; injection e with e; exact hne2 e
     · rw [h1] at e; cases e)]
 have hbil : bi < w.heap.size := by
   rcases h1 with h1 | ⟨_, rfl⟩
   · exact (hi.lt _ h1).2
   · exact hl
 refine ⟨bi', ⟨hg.os.trans hb3.os, hg.tape.trans hb3.tape, hg.output.trans hb3.output, by simp [World.setCell]; omega, fun b hb n1 n2 n3 => ?_, by rcases hbi with e | e <;> omega, .inl rfl⟩, ?_, fun b e L hb hB => ?_⟩
 · rw [hblk b (by omega) n1 n2]; exact hb3.block b hb
 · exact ⟨name, cnt, line, v', vf, n', nf, x', xf, by simpa using hk5, hi5, hf5, by omega, hov, h2, hH⟩
 · have hlt := hB.lt
   exact ⟨(hblk b hlt (by omega) (by omega)).trans hB, by rcases hbi with e | e <;> omega, by omega⟩
theorem MK.app_f {w w3 w4 : World} {H bm bi bf q : Nat} {name : ByteArray} {cnt line : Int} {vi vf v' : Value} {ni nf n' : Nat} {xi xf x' : List Value} (hb3 : Below w.heap.size w w3)
   (hk : Blk w bm 83 [.string name, .int .i32 cnt, .int .i32 line, vi, vf, .bool false]) (hi : w.ownsRow H 56 1 vi ni xi) (hf : w.ownsRow H 55 1 vf nf xf) (hq : ni ≤ q ∧ nf ≤ q ∧ 0 ≤ cnt ∧ cnt ≤ q ∧ 0 ≤ line ∧ line ≤ q)
   (h1 : vi.ownBlock = some bi ∨ (vi.ownBlock = none ∧ bi = bm)) (h2 : vf.ownBlock = some bf ∨ (vf.ownBlock = none ∧ bf = bm)) (hH : H ≤ bm) (hn : n' ≤ nf + 1)
   (hf4 : w4.ownsRow H 55 1 v' n' x') (hg : w3.grownBy w4 vf.ownBlock) (hv : v'.ownBlock = vf.ownBlock ∨ v'.ownBlock = some w3.heap.size) :
   ∃ bf', Stp w.heap.size w (w4.setCell ⟨bm, 4, none⟩ v') bm bi bf bi bf' ∧ MK (w4.setCell ⟨bm, 4, none⟩ v') H bm bi bf' (q + 1) ∧ ∀ b e L, w.heap.size ≤ b → Blk w3 b e L → Blk (w4.setCell ⟨bm, 4, none⟩ v') b e L ∧ b ≠ bi ∧ b ≠ bf' := by
 have hk3 := hk.below hb3 hk.lt
 have hi3 := own_below hi hb3
 have hf3 := own_below hf hb3
 have hk4 : Blk w4 bm 83 _ := hk3.far_own hf3 (by decide) hg
 have hi4 : w4.ownsRow H 56 1 vi ni xi := hi3.kept hg (own_two hf3 hi3 (by decide))
 have hl := hk.lt
 have hs3 := hb3.size
 have hs4 := hg.size
 have hk5 := hk4.set 4 v'
 have hset : ∀ b, b ≠ bm → (w4.setCell ⟨bm, 4, none⟩ v').heap[b]? = w4.heap[b]? := fun b hne => Below.heap_setCell w4 ⟨bm, 4, none⟩ v' b hne
 have hgs : w4.grownBy (w4.setCell ⟨bm, 4, none⟩ v') (some bm) := ⟨rfl, rfl, rfl, by simp [World.setCell], fun b _ hne => hset b (fun e => hne (by rw [e]))⟩
 have hi5 : (w4.setCell ⟨bm, 4, none⟩ v').ownsRow H 56 1 vi ni xi := hi4.kept hgs (.inr (own_other hi4 hk4 (by decide)))
 have hf5 : (w4.setCell ⟨bm, 4, none⟩ v').ownsRow H 55 1 v' n' x' := hf4.kept hgs (.inr (own_other hf4 hk4 (by decide)))
 have hbi : bi < w.heap.size := by
   rcases h1 with h1 | ⟨_, rfl⟩
   · exact (hi.lt _ h1).2
   · exact hl
 obtain ⟨bf', hbf, hov⟩ : ∃ bf', (bf' = bf ∨ w3.heap.size ≤ bf') ∧ (v'.ownBlock = some bf' ∨ (v'.ownBlock = none ∧ bf' = bm)) := by
   rcases hv with hv | hv
   · exact ⟨bf, .inl rfl, by rw [hv]; exact h2⟩
   · exact ⟨w3.heap.size, .inr (Nat.le_refl _), .inl hv⟩
 have hblk : ∀ b, b < w3.heap.size → b ≠ bm → b ≠ bf → (w4.setCell ⟨bm, 4, none⟩ v').heap[b]? = w3.heap[b]? := fun b hb hne hne2 => by
   rw [hset b hne, hg.block b hb (fun e => by
     rcases h2 with h2 | ⟨h2, _⟩
     · rw [h2] at e; injection e with e; exact hne2 e
     · rw [h2] at e; cases e)]
 have hbfl : bf < w.heap.size := by
   rcases h2 with h2 | ⟨_, rfl⟩
   · exact (hf.lt _ h2).2
   · exact hl
 refine ⟨bf', ⟨hg.os.trans hb3.os, hg.tape.trans hb3.tape, hg.output.trans hb3.output, by simp [World.setCell]; omega, fun b hb n1 n2 n3 => ?_, .inl rfl, by rcases hbf with e | e <;> omega⟩, ?_, fun b e L hb hB => ?_⟩
 · rw [hblk b (by omega) n1 n3]; exact hb3.block b hb
 · exact ⟨name, cnt, line, vi, v', ni, n', xi, x', by simpa using hk5, hi5, hf5, by omega, h1, hov, hH⟩
 · have hlt := hB.lt
   exact ⟨(hblk b hlt (by omega) (by omega)).trans hB, by omega, by rcases hbf with e | e <;> omega⟩
def WantPost (H bm bi bf q : Nat) (w : World) (e : Ending) (w' : World) : Prop := e = .returned (.bool true) ∧ Stp w.heap.size w w' bm bi bf bi bf ∧ MK w' H bm bi bf q
set_option maxHeartbeats 800000 in
theorem want_any (H bm bi bf q : Nat) (w : World) (h : MK w H bm bi bf q) : Calls Tryz.prog 36 #[.pointer (some ⟨bm, 0, none⟩), .bool true] w (WantPost H bm bi bf q w) := by
 obtain ⟨nm, cnt, line, vi, vf, ni, nf, xi, xf, hk, hi, hf, hq, h1, h2, hH⟩ := h
 have hl := hk.lt
 have c5 := hk.cell 5 (by simp)
 have f5 := hk.free 5
 have FIN : Hid (WantPost H bm bi bf q w (.returned (.bool true)) (w.setCell ⟨bm, 5, none⟩ (.bool false))) := Li (by
   have hgs : w.grownBy (w.setCell ⟨bm, 5, none⟩ (.bool false)) (some bm) := ⟨rfl, rfl, rfl, by simp [World.setCell], fun b _ hne => Below.heap_setCell w ⟨bm, 5, none⟩ _ b (fun e => hne (by rw [e]))⟩
   refine ⟨rfl, ⟨rfl, rfl, rfl, by simp [World.setCell], fun b _ n1 _ _ => Below.heap_setCell w ⟨bm, 5, none⟩ _ b n1, .inl rfl, .inl rfl⟩, ?_⟩
   exact ⟨nm, cnt, line, vi, vf, ni, nf, xi, xf, by simpa using hk.set 5 (.bool false), hi.kept hgs (.inr (own_other hi hk (by decide))), hf.kept hgs (.inr (own_other hf hk (by decide))), hq, h1, h2, hH⟩)
 clear hk hi hf hq h1 h2
 go_enter Tryz.func36, Tryz.ntmps36
 go_wp2_with fail
 go_ret
 exact FIN.out
def IdPost (H bm bi bf q : Nat) (name : ByteArray) (w : World) (e : Ending) (w' : World) : Prop :=
 ∃ ib bi', e = .returned (.pointer (some ⟨ib, 0, none⟩)) ∧ Stp w.heap.size w w' bm bi bf bi' bf ∧ MK w' H bm bi' bf (q + 1) ∧ Nd (Gx w' w.heap.size [bi', bf]) (.iface 56 (.pointer (some ⟨ib, 0, none⟩))) [name] 1 ∧ w.heap.size ≤ ib ∧ ib < w'.heap.size
set_option maxHeartbeats 1600000 in
theorem ident_any (H bm bi bf q : Nat) (name : ByteArray) (w : World) (h : MK w H bm bi bf q) (hq0 : q ≤ 8192) : Calls Tryz.prog 42 #[.pointer (some ⟨bm, 0, none⟩), .string name] w (IdPost H bm bi bf q name w) := by
 obtain ⟨iI, hiI, hzI, hsI, hbI⟩ := info_parts infoId
 have HP := Li (pos_any H bm bi bf q w h)
 obtain ⟨nm, cnt, line, vi, vf, ni, nf, xi, xf, hk, hi, hf, hq, h1, h2, hH⟩ := h
 have hl := hk.lt
 obtain ⟨ia, ic, rfl⟩ := own_form hi
 obtain ⟨fa, fc, rfl⟩ := own_form hf
 have HK := Li hk
 have HI := Li hi
 have HF := Li hf
 have H1 := Li h1
 have H2 := Li h2
 have hHw : H ≤ w.heap.size := by omega
 clear hk hi hf h1 h2
 go_enter Tryz.func42, Tryz.ntmps42
 go_wp2_with fail
 refine HP.out.mono ?_
 rintro e w1 ⟨ln, rfl, hb1⟩
 obtain ⟨ib, hib⟩ : ∃ ib, w1.heap.size = ib := ⟨_, rfl⟩
 have hs1 := hb1.size
 obtain ⟨W2, hW2⟩ : ∃ W2, W2 = (w1.alloc (.cells #[.pointer none, .pointer (some ⟨bm, 0, none⟩), .int .i32 ln, .int .i32 1, .string name, .nilIface] 65)).alloc (.cells #[.pointer (some ⟨ib, 0, none⟩)] 56) := ⟨_, rfl⟩
 have hb2 : Below w.heap.size w W2 := by rw [hW2]; exact (hb1.alloc hs1 _).alloc (by simp; omega) _
 have E2 : Blk W2 ib 65 [.pointer none, .pointer (some ⟨bm, 0, none⟩), .int .i32 ln, .int .i32 1, .string name, .nilIface] := by
   rw [hW2, ← hib]; exact (Blk.new w1 _ _).alloc _
 have SL2 : Hid (Sl W2 (ib + 2) (.slice (some ⟨ib + 1, 0, none⟩) 1 1) [.pointer (some ⟨ib, 0, none⟩)]) := Li (by rw [hW2]; exact Sl.one _ _ _ (by simp; omega))
 have OWN2 := Li (own_below HI.out hb2)
 have HB2 := Li hb2
 have HE2 := Li E2
 have KC : Hid (∀ w4 : World, W2.grownBy w4 (Value.slice ia ni ic).ownBlock → w4.cell? ⟨bm, 3, none⟩ = some (.slice ia ni ic) ∧ w4.frozen? ⟨bm, 3, none⟩ = false ∧ bm < w4.heap.size) := Li (fun w4 hg => by
   have hk4 := (HK.out.below hb2 HK.out.lt).far_own OWN2.out (by decide) hg
   exact ⟨hk4.cell 3 (by simp), hk4.free 3, hk4.lt⟩)
 have m3 : W2.cell? ⟨bm, 3, none⟩ = some (.slice ia ni ic) := (HK.out.below hb2 HK.out.lt).cell 3 (by simp)
 have m3' : (w1.alloc (.cells #[.pointer none, .pointer (some ⟨bm, 0, none⟩), .int .i32 ln, .int .i32 1, .string name, .nilIface] 65)).cell? ⟨bm, 3, none⟩ = some (.slice ia ni ic) := ((HK.out.below hb1 HK.out.lt).alloc _).cell 3 (by simp)
 have hlW : bm < W2.heap.size := by have := hb2.size; omega
 have FIN : Hid (∀ v' w4 n' x', w4.ownsRow H 56 1 v' n' x' → n' ≤ ni + 1 → W2.grownBy w4 (Value.slice ia ni ic).ownBlock → (v'.ownBlock = (Value.slice ia ni ic).ownBlock ∨ v'.ownBlock = some W2.heap.size) → IdPost H bm bi bf q name w (.returned (.pointer (some ⟨ib, 0, none⟩))) (w4.setCell ⟨bm, 3, none⟩ v')) := Li (fun v' w4 n' x' g1 g0 g2 g3 => by
   obtain ⟨bi', s1, s2, s3⟩ := MK.app_i hb2 HK.out HI.out HF.out hq H1.out H2.out hH g0 g1 g2 g3
   obtain ⟨e5, n1, n2⟩ := s3 ib _ _ (by omega) E2
   exact ⟨ib, bi', rfl, s1, s2, .ident ib _ name (Gx.of e5 (by omega) (by simp; exact ⟨n1, n2⟩)) rfl, by omega, e5.lt⟩)
 clear hb1 hb2 E2 HP
 subst hW2
 have HBW : Hid (H ≤ ((w1.alloc (.cells #[.pointer none, .pointer (some ⟨bm, 0, none⟩), .int .i32 ln, .int .i32 1, .string name, .nilIface] 65)).alloc (.cells #[.pointer (some ⟨ib, 0, none⟩)] 56)).heap.size) := Li (by simp; omega)
 have HQ := Li hq
 clear hq
 go_wp2_with (at_builtin; refine wpList_append_to _ rfl (.tmp 15) (.tmp 17) 80 rfl H 56 iI _ 8 Tryz.underlying80 hiI hzI hsI hbI rfl (.slice ia ni ic) ni _ rfl OWN2.out _ _ _ rfl SL2.out (by intro u hu; simp at hu; subst hu; rfl) (by have := HQ.out; unfold maxLen; simp; omega) (by have := HQ.out; simp; omega) HBW.out ?_; intro v4 w4 g1 g2 g3; have FS := Li (FIN.out v4 w4 _ _ g1 (by simp) g2 g3); obtain ⟨r1, r2, r3⟩ := KC.out w4 g2; obtain ⟨a4, k4, hv4⟩ := own_form g1; subst hv4; clear g1 g2 g3)
 go_ret
 exact FS.out
end Go.Proofs.YtoojgjhfmmohbaaGreat
