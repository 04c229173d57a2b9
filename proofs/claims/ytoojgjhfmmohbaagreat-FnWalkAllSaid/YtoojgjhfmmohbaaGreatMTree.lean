/- maker.stmt at any statement that a text could have; maker.stmts. impl.options, impl.tree (printed by genwktree.py). -/
import Derived.Test.YtoojgjhfmmohbaaGreatWkSt4
import Derived.Test.YtoojgjhfmmohbaaGreatWkSt4b
namespace Go.Proofs.YtoojgjhfmmohbaaGreat
open Go.RowKit Dig
set_option linter.unusedVariables false
set_option linter.unusedSimpArgs false
set_option maxRecDepth 100000
theorem mst_upto (R : Nat → Nat → Option Value) (B H bm : Nat) (n : Nat) : ∀ t : Tr, SizeOf.sizeOf t < n → MSt R B H bm t := by
 induction n with
 | zero => intro t h; omega
 | succ n ih =>
   intro t ht cs w bi bf q vt ho hBH hm hq ok pl
   have IHC : ∀ s ∈ t.c, MSt R B H bm s := fun s hs => ih s (by have := mem_c_lt hs; omega)
   have IHD : ∀ s ∈ t.d, MSt R B H bm s := fun s hs => ih s (by have := mem_d_lt hs; omega)
   clear ih ht
   cases vt with
   | mk kd op tx v nm a b c d sn sa sb sc sd hk ho' htx hn hz h1 h2 h3 h4 =>
     obtain ⟨na, nc, hne, _⟩ := hn
     simp only [List.length_map] at hne
     subst hne
     obtain ⟨a1, c1, rfl, _⟩ := h1.form
     obtain ⟨a2, c2, rfl, _⟩ := h2.form
     obtain ⟨a3, c3, rfl, _⟩ := h3.form
     obtain ⟨a4, c4, rfl, _⟩ := h4.form
     have hpl : kd ≠ 11 ∧ (∀ s ∈ c, PlS s) ∧ ∀ s ∈ d, PlS s := by cases pl with | mk _ _ _ _ _ _ _ _ _ hk hc hd => exact ⟨hk, hc, hd⟩
     simp only [Tr.c, Tr.d] at IHC IHD
     cases ok with
     | expr _ _ _ _ x hx => exact mst_k0 op tx v nm x na a1 a2 a3 a4 nc c1 c2 c3 c4 w bi bf q hx h1 ho hBH hm hq
     | asg _ _ _ _ x y hx hy => exact mst_k1 op tx v nm x y na a1 a2 a3 a4 nc c1 c2 c3 c4 w bi bf q hx hy h1 ho hBH hm hq
     | aug _ _ _ _ x y ho1 ho2 hx hy => exact mst_k2 op tx v nm x y na a1 a2 a3 a4 nc c1 c2 c3 c4 w bi bf q hx hy ho1 ho2 h1 ho hBH hm hq
     | fn _ _ _ _ _ _ hb hc h => exact mst_k3 op tx v nm b c na a1 a2 a3 a4 nc c1 c2 c3 c4 w bi bf q hb hc (fun s hs => ⟨IHC s hs, h s hs, hpl.2.1 s hs⟩) h2 h3 ho hBH hm hq
     | cond _ _ _ _ x _ _ hx hc h hd => exact mst_k4 op tx v nm x c d na a1 a2 a3 a4 nc c1 c2 c3 c4 w bi bf q hx hc (fun s hs => ⟨IHC s hs, h s hs, hpl.2.1 s hs⟩) (fun s hs => ⟨IHD s hs, hd s hs, hpl.2.2 s hs⟩) h1 h3 h4 ho hBH hm hq
     | each _ _ _ _ x y _ hx hy hc h => exact mst_k5 op tx v nm x y c na a1 a2 a3 a4 nc c1 c2 c3 c4 w bi bf q hx hy hc (fun s hs => ⟨IHC s hs, h s hs, hpl.2.1 s hs⟩) h1 h3 ho hBH hm hq
     | whil _ _ _ _ x _ hx hc h => exact mst_k6 op tx v nm x c na a1 a2 a3 a4 nc c1 c2 c3 c4 w bi bf q hx hc (fun s hs => ⟨IHC s hs, h s hs, hpl.2.1 s hs⟩) h1 h3 ho hBH hm hq
     | ret0 => exact mst_k7a op tx v nm na a1 a2 a3 a4 nc c1 c2 c3 c4 w bi bf q h1 ho hBH hm hq
     | ret1 _ _ _ _ x hx => exact mst_k7b op tx v nm x na a1 a2 a3 a4 nc c1 c2 c3 c4 w bi bf q hx h1 ho hBH hm hq
     | brk _ _ _ _ _ hk8 =>
       rcases hk8 with rfl | rfl | rfl
       · exact mst_k8 op tx v nm na a1 a2 a3 a4 nc c1 c2 c3 c4 w bi bf q ho hBH hm hq
       · exact mst_k9 op tx v nm na a1 a2 a3 a4 nc c1 c2 c3 c4 w bi bf q ho hBH hm hq
       · exact mst_k10 op tx v nm na a1 a2 a3 a4 nc c1 c2 c3 c4 w bi bf q ho hBH hm hq
     | load => exact absurd rfl hpl.1
theorem mst_any (R : Nat → Nat → Option Value) (B H bm : Nat) (t : Tr) : MSt R B H bm t := mst_upto R B H bm _ t (Nat.lt_succ_self _)
theorem Old.le {R : Nat → Nat → Option Value} {B B' : Nat} {w : World} (h : Old R B w) (hB : B ≤ B') : Old R B' w := fun b o x hx => by
 obtain ⟨h1, h2⟩ := h b o x hx
 exact ⟨by omega, h2⟩
theorem Nds.len {G : Nat → Option Obj} {l : List Value} {ns : List ByteArray} {c : Nat} (h : Nds G l ns c) : ns.length ≤ c :=
 Nds.rec (motive_1 := fun v ns c _ => ns.length ≤ c) (motive_2 := fun l ns c _ => ns.length ≤ c)
   (fun b L tx hb h4 => by simp) (fun T e sl hT b L hb ch hch ns c _ ih => by omega) (by simp) (fun v l n1 n2 c1 c2 _ _ ih1 ih2 => by simp; omega) h
set_option maxHeartbeats 1600000 in
theorem options_any (o1 o2 o3 o4 o5 o6 : Bool) (w : World) : Calls Tryz.prog 24 #[.agg #[.bool o1, .bool o2, .bool o3, .bool o4, .bool o5, .bool o6]] w fun e w' => (∃ b, e = .returned (.pointer (some ⟨b, 0, none⟩))) ∧ Below w.heap.size w w' := by
 have HB : Hid (∀ o o' : Obj, Below w.heap.size w ((w.alloc o).alloc o')) := Li (fun o o' => ((Below.refl _ _).alloc (Nat.le_refl _) _).alloc (by simp) _)
 go_enter Tryz.func24, Tryz.ntmps24
 go_wp2_with fail
 go_ret
 exact ⟨⟨_, rfl⟩, HB.out _ _⟩
def TreePost (l : List Tr) (w : World) (e : Ending) (w' : World) : Prop :=
 ∃ fb bm lo ex nm v vs c op, e = .returned (.tuple #[.pointer (some ⟨fb, 0, none⟩), .pointer (some ⟨bm, 0, none⟩), .bool true]) ∧ Below w.heap.size w w' ∧ w.heap.size ≤ lo ∧ Gx w' lo ex fb = some (.cells #[.pointer none, .string nm, v, .nilIface, op] 89 (0, 0)) ∧ RowG (Gx w' lo ex) v vs ∧ Nds (Gx w' lo ex) vs (nmSs l) c ∧ c ≤ 3 * ctSs l
set_option maxHeartbeats 6400000 in
theorem tree_any {R : Nat → Nat → Option Value} {B : Nat} (nm : ByteArray) (l : List Tr) (sa : Option Addr) (sc : Nat) (o1 o2 o3 o4 o5 o6 : Bool) (w : World) (ho : Old R B w) (hB : B ≤ w.heap.size) (hl : StL R l (.slice sa l.length sc)) (hok : ∀ t ∈ l, OkS t) (hpl : ∀ t ∈ l, PlS t) (hq : ctSs l ≤ 8192) :
   Calls Tryz.prog 16 #[.agg #[.string nm, .slice sa l.length sc, .bool o1, .bool o2, .bool o3, .bool o4, .bool o5, .bool o6]] w (TreePost l w) := by
 have b1 : Below w.heap.size w (w.alloc (.cells #[.string nm, .slice sa l.length sc, .bool o1, .bool o2, .bool o3, .bool o4, .bool o5, .bool o6] 26)) := (Below.refl _ _).alloc (Nat.le_refl _) _
 obtain ⟨W2, hW2⟩ : ∃ W2, W2 = ((w.alloc (.cells #[.string nm, .slice sa l.length sc, .bool o1, .bool o2, .bool o3, .bool o4, .bool o5, .bool o6] 26)).alloc (.cells #[.string nm, .int .i32 0, .int .i32 0, .slice none 0 0, .slice none 0 0, .bool false] 83)).drew := ⟨_, rfl⟩
 have b2 : Below w.heap.size w W2 := by rw [hW2]; exact (b1.alloc (by simp) _).drew
 have F2 : Blk W2 w.heap.size 26 [.string nm, .slice sa l.length sc, .bool o1, .bool o2, .bool o3, .bool o4, .bool o5, .bool o6] := by rw [hW2]; exact (Blk.new w _ _).alloc _
 have M2 : Blk W2 (w.heap.size + 1) 83 [.string nm, .int .i32 0, .int .i32 0, .slice none 0 0, .slice none 0 0, .bool false] := by
   rw [hW2]
   have h0 := Blk.new (w.alloc (.cells #[.string nm, .slice sa l.length sc, .bool o1, .bool o2, .bool o3, .bool o4, .bool o5, .bool o6] 26)) 83 [.string nm, .int .i32 0, .int .i32 0, .slice none 0 0, .slice none 0 0, .bool false]
   simp at h0; exact h0
 have z2 : W2.heap.size = w.heap.size + 2 := by rw [hW2]; simp
 have hm2 : MK W2 w.heap.size (w.heap.size + 1) (w.heap.size + 1) (w.heap.size + 1) 0 :=
   ⟨nm, 0, 0, .slice none 0 0, .slice none 0 0, 0, 0, [], [], M2, World.ownsRow_nil _ _ _ _, World.ownsRow_nil _ _ _ _, by omega, .inr ⟨rfl, rfl⟩, .inr ⟨rfl, rfl⟩, by omega⟩
 have HO2 : Hid (Old R B W2) := Li (ho.below (b2.mono hB))
 have hll := len_le_ctSs (l := l)
 have SD := Li (mstmts_of (l := l) (H := w.heap.size) (bm := w.heap.size + 1) (fun t _ => mst_any R B w.heap.size (w.heap.size + 1) t) hok hpl sa sc W2 (w.heap.size + 1) (w.heap.size + 1) 0 hl HO2.out hB hm2 (by omega) (by omega))
 have HB2 := Li b2
 have HF2 := Li F2
 have HM2 := Li hm2
 have KS : Hid (∀ W, Blk W w.heap.size 26 [.string nm, .slice sa l.length sc, .bool o1, .bool o2, .bool o3, .bool o4, .bool o5, .bool o6] → W.cell? ⟨w.heap.size, 0, none⟩ = some (.string nm) ∧ W.cell? ⟨w.heap.size, 1, none⟩ = some (.slice sa l.length sc) ∧ W.cell? ⟨w.heap.size, 2, none⟩ = some (.bool o1) ∧ W.cell? ⟨w.heap.size, 3, none⟩ = some (.bool o2) ∧ W.cell? ⟨w.heap.size, 4, none⟩ = some (.bool o3) ∧ W.cell? ⟨w.heap.size, 5, none⟩ = some (.bool o4) ∧ W.cell? ⟨w.heap.size, 6, none⟩ = some (.bool o5) ∧ W.cell? ⟨w.heap.size, 7, none⟩ = some (.bool o6)) := Li (fun W h => ⟨h.cell 0 (by simp), h.cell 1 (by simp), h.cell 2 (by simp), h.cell 3 (by simp), h.cell 4 (by simp), h.cell 5 (by simp), h.cell 6 (by simp), h.cell 7 (by simp)⟩)
 have STEPD : Hid (∀ (en : Ending) (w3 : World), MLPost w.heap.size (w.heap.size + 1) (w.heap.size + 1) (w.heap.size + 1) 0 (ctSs l) l.length (nmSs l) W2 en w3 → ∃ a cc, en = .returned (.slice a l.length cc) ∧ Blk w3 w.heap.size 26 [.string nm, .slice sa l.length sc, .bool o1, .bool o2, .bool o3, .bool o4, .bool o5, .bool o6] ∧
     ∀ (w4 : World) (ob : Nat), Below w3.heap.size w3 w4 → Blk w4 w.heap.size 26 [.string nm, .slice sa l.length sc, .bool o1, .bool o2, .bool o3, .bool o4, .bool o5, .bool o6] ∧ Blk (w4.alloc (.cells #[.pointer none, .string nm, .slice a l.length cc, .nilIface, .pointer (some ⟨ob, 0, none⟩)] 89)) w.heap.size 26 [.string nm, .slice sa l.length sc, .bool o1, .bool o2, .bool o3, .bool o4, .bool o5, .bool o6] ∧ (w4.alloc (.cells #[.pointer none, .string nm, .slice a l.length cc, .nilIface, .pointer (some ⟨ob, 0, none⟩)] 89)).cell? ⟨w.heap.size + 1, 5, none⟩ = some (.bool false) ∧ TreePost l w (.returned (.tuple #[.pointer (some ⟨w4.heap.size, 0, none⟩), .pointer (some ⟨w.heap.size + 1, 0, none⟩), .bool true])) ((w4.alloc (.cells #[.pointer none, .string nm, .slice a l.length cc, .nilIface, .pointer (some ⟨ob, 0, none⟩)] 89)).drew)) := Li (fun en w3 h3 => by
   obtain ⟨a, cc, vs, c, bi', bf', rfl, hvl, hs, hm3, hr, hn, hc⟩ := h3
   obtain ⟨n1, n2, n3⟩ := HM2.out.ne HF2.out (by decide) (by decide) (by decide)
   have hf3 := (hs.blk HF2.out HF2.out.lt n1 n2 n3).1
   refine ⟨a, cc, rfl, hf3, fun w4 ob h4 => ?_⟩
   have z3 := hs.size
   have z4 := h4.size
   have hf4 := hf3.below h4 hf3.lt
   have b5 : Below w4.heap.size w4 (w4.alloc (.cells #[.pointer none, .string nm, .slice a l.length cc, .nilIface, .pointer (some ⟨ob, 0, none⟩)] 89)) := (Below.refl _ _).alloc (Nat.le_refl _) _
   have hm5 : MK (w4.alloc (.cells #[.pointer none, .string nm, .slice a l.length cc, .nilIface, .pointer (some ⟨ob, 0, none⟩)] 89)) w.heap.size (w.heap.size + 1) bi' bf' (0 + ctSs l) := (hm3.below h4).below b5
   obtain ⟨_, _, _, _, l5, l6⟩ := (hm3.below h4).lts
   have hg : GLe (Gx w3 W2.heap.size [bi', bf']) (Gx (w4.alloc (.cells #[.pointer none, .string nm, .slice a l.length cc, .nilIface, .pointer (some ⟨ob, 0, none⟩)] 89)).drew W2.heap.size [bi', bf']) := fun b o hb => Gx.below b5 b o (Gx.below h4 b o hb)
   have hb3 : Below w.heap.size W2 w3 := hs.below (by omega) (by omega) (by omega) (by omega)
   have tp : TreePost l w (.returned (.tuple #[.pointer (some ⟨w4.heap.size, 0, none⟩), .pointer (some ⟨w.heap.size + 1, 0, none⟩), .bool true])) ((w4.alloc (.cells #[.pointer none, .string nm, .slice a l.length cc, .nilIface, .pointer (some ⟨ob, 0, none⟩)] 89)).drew) :=
     ⟨w4.heap.size, w.heap.size + 1, W2.heap.size, [bi', bf'], nm, .slice a l.length cc, vs, c, .pointer (some ⟨ob, 0, none⟩), rfl, (((HB2.out.trans hb3).trans (h4.mono (by omega))).trans (b5.mono (by omega))).drew, by omega, Gx.of (L := [.pointer none, .string nm, .slice a l.length cc, .nilIface, .pointer (some ⟨ob, 0, none⟩)]) (Blk.new w4 _ _) (by omega) (by simp; omega), hr.mono hg, hn.mono hg, hc⟩
   refine ⟨hf4, hf4.alloc _, ?_, tp⟩
   obtain ⟨_, _, _, _, _, _, _, _, _, hk, _⟩ := hm5
   exact hk.cell 5 (by simp))
 clear b1 b2 F2 M2 z2 hm2 hll ho hl hok hpl
 subst hW2
 go_enter Tryz.func16, Tryz.ntmps16
 go_upto_region 2 with fail
 go_region_held3 (fun W => W.cell? ⟨w.heap.size, 0, none⟩ = some (.string nm) ∧ W.cell? ⟨w.heap.size, 1, none⟩ = some (.slice sa l.length sc) ∧ W.cell? ⟨w.heap.size, 2, none⟩ = some (.bool o1) ∧ W.cell? ⟨w.heap.size, 3, none⟩ = some (.bool o2) ∧ W.cell? ⟨w.heap.size, 4, none⟩ = some (.bool o3) ∧ W.cell? ⟨w.heap.size, 5, none⟩ = some (.bool o4) ∧ W.cell? ⟨w.heap.size, 6, none⟩ = some (.bool o5) ∧ W.cell? ⟨w.heap.size, 7, none⟩ = some (.bool o6)) (with_reducible first | exact KS.out _ HF2.out | exact KS.out _ HF3.out | exact KS.out _ HF4.out | exact KS.out _ HF5.out | fail)
   ((first
     | (go_at_call 23; (with_reducible refine SD.out.mono ?_); rintro e w3 h3; obtain ⟨a, cc, rfl, hf3, nx⟩ := STEPD.out e w3 h3; have HF3 := Li hf3; have NX := Li nx; clear h3 hf3 nx)
     | (go_at_call 24; (with_reducible refine (options_any o1 o2 o3 o4 o5 o6 w3).mono ?_); rintro e w4 ⟨⟨ob, rfl⟩, h4⟩; obtain ⟨hf4, hf5, x5, fin⟩ := NX.out w4 ob h4; have HF4 := Li hf4; have HF5 := Li hf5; have FIN := Li fin; clear h4 hf4 hf5 fin)
     | fail))
 have x5d : (w4.alloc (.cells #[.pointer none, .string nm, .slice a l.length cc, .nilIface, .pointer (some ⟨ob, 0, none⟩)] 89)).drew.cell? ⟨w.heap.size + 1, 5, none⟩ = some (.bool false) := x5
 clear HF2 HF3 HF4 HF5 NX KS STEPD SD HM2
 go_upto_region 3 with fail
 go_region
 all_goals
   go_wp2_with fail
   exact bodyPost_ret (v := .tuple #[.pointer (some ⟨w4.heap.size, 0, none⟩), .pointer (some ⟨w.heap.size + 1, 0, none⟩), .bool true]) (by simp [results, Tryz.results16, go_sem]) rfl FIN.out
end Go.Proofs.YtoojgjhfmmohbaaGreat
