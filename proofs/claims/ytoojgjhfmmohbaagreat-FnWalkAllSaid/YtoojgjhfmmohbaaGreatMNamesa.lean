/- spec.walkParams, walkExprs, WalkNames: the names of a tree, in a row of the call's own. spec.walkExprs (printed by genwknames.py). -/
import Derived.Test.YtoojgjhfmmohbaaGreatMFite
import Derived.Test.YtoojgjhfmmohbaaGreatMApp
namespace Go.Proofs.YtoojgjhfmmohbaaGreat
open Go.RowKit Dig
set_option linter.unusedVariables false
set_option linter.unusedSimpArgs false
set_option maxRecDepth 100000
theorem infoStr : (Tryz.prog.info? 9).map (fun i => (i.zero, i.size, i.bytes)) = some (some (.string ByteArray.empty), 1, 16) := by kernel_rfl
theorem one_str (ns : List ByteArray) : ∀ u ∈ ns.map Value.string, u.oneCell' = true := by
 intro u hu
 obtain ⟨x, _, rfl⟩ := List.mem_map.1 hu
 rfl
def NmPost (ns : List ByteArray) (w : World) (e : Ending) (w' : World) : Prop := ∃ v, e = .returned v ∧ Rr w' w.heap.size v (ns.map .string) ∧ Below w.heap.size w w'
def NmRel (f : List Tr → List ByteArray) (w : World) (l : List Tr) (v i : Value) (wr : World) : Prop :=
 ∃ k : Nat, k ≤ l.length ∧ i = .int .i64 (k : Int) ∧ Hid (wr.ownsRow w.heap.size 9 1 v (f (l.take k)).length ((f (l.take k)).map .string)) ∧ Hid (Below w.heap.size w wr)
theorem NmRel.step {f : List Tr → List ByteArray} {w w1 : World} {l : List Tr} {k : Nat} {t : Tr} {v : Value} {ns : List ByteArray} (ht : l[k]? = some t) (hf : f (l.take k ++ [t]) = f (l.take k) ++ ns)
   (ho : w1.ownsRow w.heap.size 9 1 v ((f (l.take k)).length + ns.length) ((f (l.take k)).map .string ++ ns.map .string)) (hb : Below w.heap.size w w1) : NmRel f w l v (.int .i64 ((k : Int) + 1)) w1 := by
 refine ⟨k + 1, (List.getElem?_eq_some_iff.1 ht).1, by simp, Li ?_, Li hb⟩
 rw [take_succ_of ht, hf, List.length_append, List.map_append]
 exact ho
theorem NmRel.fin {f : List Tr → List ByteArray} {w wr : World} {l : List Tr} {v : Value} (ho : wr.ownsRow w.heap.size 9 1 v (f (l.take l.length)).length ((f (l.take l.length)).map .string)) (hb : Below w.heap.size w wr) : NmPost (f l) w (.returned v) wr := by
 rw [List.take_of_length_le (Nat.le_refl _)] at ho
 exact ⟨v, rfl, Rr.of_own (by simpa using ho), hb⟩
def NmE (R : Nat → Nat → Option Value) (B n : Nat) : Prop := ∀ (l : List Tr) (a : Option Addr) (c : Nat) (w : World), (∀ t ∈ l, SizeOf.sizeOf t < n) → ExL R l (.slice a l.length c) → Old R B w → B ≤ w.heap.size → (nmEs l).length ≤ 4096 →
 Calls Tryz.prog 13 #[.slice a l.length c] w (NmPost (nmEs l) w)
def NmP (R : Nat → Nat → Option Value) (B n : Nat) : Prop := ∀ (l : List Tr) (a : Option Addr) (c : Nat) (w : World), (∀ t ∈ l, SizeOf.sizeOf t < n) → PaL R l (.slice a l.length c) → Old R B w → B ≤ w.heap.size → (nmPs l).length ≤ 4096 →
 Calls Tryz.prog 12 #[.slice a l.length c] w (NmPost (nmPs l) w)
theorem len_take {f : List Tr → List ByteArray} (hf : ∀ x y, f (x ++ y) = f x ++ f y) {l : List Tr} {k : Nat} {t : Tr} (ht : l[k]? = some t) : (f (l.take k)).length + (f [t]).length ≤ (f l).length := by
 have e : l = (l.take k ++ [t]) ++ l.drop (k + 1) := by rw [← take_succ_of ht, List.take_append_drop]
 have := congrArg (fun x => (f x).length) e
 simp only [hf, List.length_append] at this
 omega
set_option maxHeartbeats 3200000 in
theorem params_step (R : Nat → Nat → Option Value) (B n : Nat) (IHE : NmE R B n) : NmP R B (n + 1) := by
 intro l a c w hsz hl ho hB hlen
 obtain ⟨iS, hiS, hzS, hsS, hbS⟩ := info_parts infoStr
 obtain ⟨a', c', e, hc, hm, hrow⟩ := hl.form
 simp only [Value.slice.injEq, true_and] at e
 obtain ⟨rfl, rfl⟩ := e
 unfold maxLen at hm
 have START : Hid (NmRel nmPs w l (.slice none 0 0) (.int .i64 0) w) := Li ⟨0, Nat.zero_le _, rfl, Li (by simpa using World.ownsRow_nil w w.heap.size 9 1), Li (Below.refl _ _)⟩
 have HO := Li ho; have HR := Li hrow; have HSZ := Li hsz; have IH := Li IHE; have HLEN := Li hlen
 clear hsz hl ho hrow IHE hlen
 go_enter Tryz.func12, Tryz.ntmps12
 go_wp2_with fail
 go_loopw [3, 8] (NmRel nmPs w l) (fun _ i _ => l.length - (intOf i).toNat)
 case atStart => exact START.out
 case round =>
   obtain ⟨k, hk, rfl, HOWN, HBL⟩ := hrel
   clear START
   by_cases hlt : k < l.length
   · obtain ⟨t, ht⟩ : ∃ t, l[k]? = some t := ⟨_, List.getElem?_eq_getElem hlt⟩
     have hwr : Old R B wr := HO.out.below (HBL.out.mono hB)
     obtain ⟨b, o, rfl, hx⟩ := HR.out (by intro h; rw [h] at hlt; simp at hlt)
     obtain ⟨kd, op, tx, v, nm, ca, cb, cc, cd, sa, sc, et, hxv, ⟨hxa, hkr, htx⟩, hbB, c0, c1, c2⟩ := (hx k t ht).cells hwr
     obtain ⟨W0, hW0⟩ : ∃ W0, W0 = wr.alloc (.cells #[.int .i64 kd, .string tx, .slice sa ca.length sc] 68) := ⟨_, rfl⟩
     have hb0 : Below wr.heap.size wr W0 := by rw [hW0]; exact (Below.refl _ _).alloc (Nat.le_refl _) _
     have E0 : Blk W0 wr.heap.size 68 [.int .i64 kd, .string tx, .slice sa ca.length sc] := by rw [hW0]; exact Blk.new wr _ _
     have hle := len_take nmPs_append ht
     obtain ⟨N, hN⟩ : ∃ N, N = (nmPs (l.take k)).length := ⟨_, rfl⟩
     obtain ⟨M, hM⟩ : ∃ M, M = (nmEs ca).length := ⟨_, rfl⟩
     have hNM : N + (if kd = 3 then 0 else 1) + M ≤ 4096 := by
       have h1 : (nmPs [t]).length = (if kd = 3 then 0 else 1) + M := by rw [et, hM]; simp only [nmPs_cons, nmPs_nil, nmP_mk, List.length_append, List.length_nil, Nat.add_zero]; split <;> simp
       rw [h1, ← hN] at hle
       have := HLEN.out
       omega
     have OWN0 := Li (own_below HOWN.out hb0)
     have BEL0 := Li (HBL.out.trans (hb0.mono HBL.out.size))
     rw [← hN] at OWN0
     have hst := HSZ.out t (List.mem_of_getElem? ht)
     have HC : Hid (∀ W, Below w.heap.size w W → Calls Tryz.prog 13 #[.slice sa ca.length sc] W (NmPost (nmEs ca) W)) := Li (fun W hW => IH.out ca sa sc W (fun s hs => by have := mem_a_lt (t := t) (by rw [et]; exact hs); omega) hxa (HO.out.below (hW.mono hB)) (Nat.le_trans hB hW.size) (by rw [← hM]; omega))
     have FINR : Hid (∀ v4 w4, w4.ownsRow w.heap.size 9 1 v4 (N + (nmP t).length) ((nmPs (l.take k)).map .string ++ (nmP t).map .string) → Below w.heap.size w w4 → NmRel nmPs w l v4 (.int .i64 ((k : Int) + 1)) w4) := Li (fun v4 w4 h1 h2 => NmRel.step (ns := nmP t) ht (by rw [nmPs_append]; simp) (by rw [← hN]; exact h1) h2)
     have HET := Li et
     have HE0 := Li E0
     have HM := Li hM
     clear ht et hxv hxa hkr htx hx hwr hb0 E0 hst hle HOWN HBL hM hN
     subst hW0
     by_cases hk3 : kd = 3
     · subst hk3
       simp only [if_true] at hNM
       go_wp2_with fail
       with_reducible refine (HC.out _ BEL0.out).mono ?_
       rintro e w3 ⟨v3, rfl, hr3, hb3⟩
       have OWN3 := Li (own_below OWN0.out hb3)
       have BEL3 := Li (BEL0.out.trans (hb3.mono BEL0.out.size))
       have SL3 := Li hr3.sl
       obtain ⟨a3, c3, hv3, _⟩ := hr3.len
       rw [List.length_map] at hv3
       subst hv3
       clear hr3 hb3 HC HE0
       have FIN4 : Hid (∀ v4 w4, w4.ownsRow w.heap.size 9 1 v4 (N + ((nmEs ca).map Value.string).length) ((nmPs (l.take k)).map Value.string ++ (nmEs ca).map .string) → w3.grownBy w4 u3.ownBlock → NmRel nmPs w l v4 (.int .i64 ((k : Int) + 1)) w4) := Li (fun v4 w4 h1 h2 => FINR.out v4 w4 (by
         rw [HET.out, nmP_mk]; simpa using h1) (below_grown BEL3.out OWN3.out h2 BEL3.out.size))
       go_wp2_with (at_builtin; refine wpList_append_to _ rfl (.tmp 20) (.tmp 23) 30 rfl w.heap.size 9 iS _ 16 Tryz.underlying30 hiS hzS hsS hbS rfl u3 (N) _ rfl OWN3.out _ _ _ rfl SL3.out (one_str _) (by rw [List.length_map, ← HM.out]; unfold maxLen; omega) (by rw [List.length_map, ← HM.out]; omega) BEL3.out.size ?_; intro v4 w4 g1 g2 _; have FIN := Li (FIN4.out v4 w4 g1 g2); clear g1 g2)
       go_roundw
       case rel => first | exact FIN.out | ((repeat apply Exists.intro); exact ⟨FIN.out, rfl⟩)
       case measure => simp [intOf]; omega
     · simp only [if_neg hk3] at hNM
       have hk3' : (kd != 3) = true := by rw [bne_iff_ne]; exact hk3
       have W1S : Hid (Sl ((wr.alloc (.cells #[.int .i64 kd, .string tx, .slice sa ca.length sc] 68)).alloc (.cells #[.string tx] 9)) (wr.heap.size + 2) (.slice (some ⟨wr.heap.size + 1, 0, none⟩) 1 1) ([tx].map .string)) := Li (Sl.one _ 9 (.string tx) (by simp))
       have hb1 : Below (wr.alloc (.cells #[.int .i64 kd, .string tx, .slice sa ca.length sc] 68)).heap.size (wr.alloc (.cells #[.int .i64 kd, .string tx, .slice sa ca.length sc] 68)) ((wr.alloc (.cells #[.int .i64 kd, .string tx, .slice sa ca.length sc] 68)).alloc (.cells #[.string tx] 9)) := (Below.refl _ _).alloc (Nat.le_refl _) _
       have OWN1 := Li (own_below OWN0.out hb1)
       have BEL1 := Li (BEL0.out.trans (hb1.mono BEL0.out.size))
       have HE1 := Li (HE0.out.below hb1 HE0.out.lt)
       have HK3 := Li hk3
       have STEP1 : Hid (∀ w2 : World, ((wr.alloc (.cells #[.int .i64 kd, .string tx, .slice sa ca.length sc] 68)).alloc (.cells #[.string tx] 9)).grownBy w2 u3.ownBlock → Below w.heap.size w w2 ∧ Blk w2 wr.heap.size 68 [.int .i64 kd, .string tx, .slice sa ca.length sc]) := Li (fun w2 h =>
         ⟨below_grown BEL1.out OWN1.out h BEL1.out.size, HE1.out.far_own OWN1.out (by decide) h⟩)
       clear hk3 hb1 HE0 OWN0 BEL0
       go_wp2_with (at_builtin; refine wpList_append_to _ rfl (.tmp 15) (.tmp 18) 30 rfl w.heap.size 9 iS _ 16 Tryz.underlying30 hiS hzS hsS hbS rfl u3 N _ rfl OWN1.out _ _ _ rfl W1S.out (one_str _) (by unfold maxLen; simp; omega) (by simp; omega) BEL1.out.size ?_; intro v2 w2 g1 g2 _; have OWN2 := Li g1; obtain ⟨hbw2, he2⟩ := STEP1.out w2 g2; have BEL2 := Li hbw2; have e2 := he2.cell 2 (by simp); have le2 := he2.lt; clear g1 g2 hbw2 he2)
       with_reducible refine (HC.out _ BEL2.out).mono ?_
       rintro e w3 ⟨v3, rfl, hr3, hb3⟩
       have OWN3 := Li (own_below OWN2.out hb3)
       have BEL3 := Li (BEL2.out.trans (hb3.mono BEL2.out.size))
       have SL3 := Li hr3.sl
       obtain ⟨a3, c3, hv3, _⟩ := hr3.len
       rw [List.length_map] at hv3
       subst hv3
       clear HE1 OWN1 BEL1 W1S STEP1
       clear hr3 hb3 HC
       have FIN4 : Hid (∀ v4 w4, w4.ownsRow w.heap.size 9 1 v4 (N + ([tx].map Value.string).length + ((nmEs ca).map Value.string).length) (((nmPs (l.take k)).map Value.string ++ [tx].map Value.string) ++ (nmEs ca).map .string) → w3.grownBy w4 v2.ownBlock → NmRel nmPs w l v4 (.int .i64 ((k : Int) + 1)) w4) := Li (fun v4 w4 h1 h2 => FINR.out v4 w4 (by
         rw [HET.out, nmP_mk]; rw [if_neg HK3.out]; simpa [Nat.add_assoc, Nat.add_comm, Nat.add_left_comm] using h1) (below_grown BEL3.out OWN3.out h2 BEL3.out.size))
       go_wp2_with (at_builtin; refine wpList_append_to _ rfl (.tmp 20) (.tmp 23) 30 rfl w.heap.size 9 iS _ 16 Tryz.underlying30 hiS hzS hsS hbS rfl v2 (N + ([tx].map Value.string).length) _ rfl OWN3.out _ _ _ rfl SL3.out (one_str _) (by rw [List.length_map, List.length_map, List.length_singleton, ← HM.out]; unfold maxLen; omega) (by rw [List.length_map, List.length_map, List.length_singleton, ← HM.out]; omega) BEL3.out.size ?_; intro v4 w4 g1 g2 _; have FIN := Li (FIN4.out v4 w4 g1 g2); clear g1 g2)
       go_roundw
       case rel => first | exact FIN.out | ((repeat apply Exists.intro); exact ⟨FIN.out, rfl⟩)
       case measure => simp [intOf]; omega
   · obtain rfl : k = l.length := by omega
     have FIN := Li (NmRel.fin HOWN.out HBL.out)
     clear HOWN HBL
     go_wp2_with fail
     go_ret
     exact FIN.out
def NmCut (w : World) (T : TypeId) (eb : Nat) (L : List Value) (n : Nat) (xs : List Value) (v : Value) (wx : World) : Prop := wx.ownsRow w.heap.size 9 1 v n xs ∧ Below w.heap.size w wx ∧ Blk wx eb T L
set_option maxHeartbeats 6400000 in
theorem exprs_step (R : Nat → Nat → Option Value) (B n : Nat) (IHE : NmE R B n) (IHP : NmP R B n) : NmE R B (n + 1) := by
 intro l a c w hsz hl ho hB hlen
 obtain ⟨iS, hiS, hzS, hsS, hbS⟩ := info_parts infoStr
 obtain ⟨a', c', e, hc, hm, hrow⟩ := hl.form
 simp only [Value.slice.injEq, true_and] at e
 obtain ⟨rfl, rfl⟩ := e
 unfold maxLen at hm
 have START : Hid (NmRel nmEs w l (.slice none 0 0) (.int .i64 0) w) := Li ⟨0, Nat.zero_le _, rfl, Li (by simpa using World.ownsRow_nil w w.heap.size 9 1), Li (Below.refl _ _)⟩
 have HO := Li ho; have HR := Li hrow; have HSZ := Li hsz; have IH := Li IHE; have IH2 := Li IHP; have HLEN := Li hlen
 clear hsz hl ho hrow IHE hlen IHP
 go_enter Tryz.func13, Tryz.ntmps13
 go_wp2_with fail
 go_loopw [3, 8] (NmRel nmEs w l) (fun _ i _ => l.length - (intOf i).toNat)
 case atStart => exact START.out
 case round =>
   obtain ⟨k, hk, rfl, HOWN, HBL⟩ := hrel
   clear START
   by_cases hlt : k < l.length
   · obtain ⟨t, ht⟩ : ∃ t, l[k]? = some t := ⟨_, List.getElem?_eq_getElem hlt⟩
     have hwr : Old R B wr := HO.out.below (HBL.out.mono hB)
     obtain ⟨b, o, rfl, hx⟩ := HR.out (by intro h; rw [h] at hlt; simp at hlt)
     obtain ⟨kd, op, tx, v, nm, ca, cb, cc, cd, ma, mc, ka, kc, sa, sc, pa, pc, et, hxv, ⟨hvr, hxa, hpb, hkr, hor, htx⟩, hbB, c0, c1, c2, c3, c4, c5, c6, c7, c8, c9, c10⟩ := (hx k t ht).cells hwr
     obtain ⟨W0, hW0⟩ : ∃ W0, W0 = (wr.alloc (.cells #[.int .i64 kd, .int .i64 op, .string tx, .int .i64 v.kd, .bool v.nb, .slice ma v.ms.length mc, .int .u64 v.ub, .string v.tx, .slice ka v.kn kc, .slice sa ca.length sc, .slice pa cb.length pc] 75)) := ⟨_, rfl⟩
     have hb0 : Below wr.heap.size wr W0 := by rw [hW0]; exact (Below.refl _ _).alloc (Nat.le_refl _) _
     have E0 : Blk W0 wr.heap.size 75 [.int .i64 kd, .int .i64 op, .string tx, .int .i64 v.kd, .bool v.nb, .slice ma v.ms.length mc, .int .u64 v.ub, .string v.tx, .slice ka v.kn kc, .slice sa ca.length sc, .slice pa cb.length pc] := by rw [hW0]; exact Blk.new wr _ _
     have hle := len_take nmEs_append ht
     obtain ⟨N, hN⟩ : ∃ N, N = (nmEs (l.take k)).length := ⟨_, rfl⟩
     have hNM : N + (if kd = 1 ∨ kd = 15 then 1 else 0) + (nmPs cb).length + (nmEs ca).length + (if kd = 13 then 1 else 0) ≤ 4096 := by
       have h1 : (nmEs [t]).length = (if kd = 1 ∨ kd = 15 then 1 else 0) + (nmPs cb).length + (nmEs ca).length + (if kd = 13 then 1 else 0) := by
         rw [et]; simp only [nmEs_cons, nmEs_nil, nmE_mk, List.length_append, List.length_nil, Nat.add_zero]
         split <;> split <;> simp <;> omega
       rw [h1, ← hN] at hle
       have := HLEN.out
       omega
     have OWN := Li (own_below HOWN.out hb0)
     have BEL := Li (HBL.out.trans (hb0.mono HBL.out.size))
     rw [← hN] at OWN
     have hst := HSZ.out t (List.mem_of_getElem? ht)
     have CG : Hid (∀ W, Below w.heap.size w W → Calls Tryz.prog 13 #[.slice sa ca.length sc] W (NmPost (nmEs ca) W)) := Li (fun W hW => IH.out ca sa sc W (fun s hs => by have := mem_a_lt (t := t) (by rw [et]; exact hs); omega) hxa (HO.out.below (hW.mono hB)) (Nat.le_trans hB hW.size) (by omega))
     have CF : Hid (∀ W, Below w.heap.size w W → Calls Tryz.prog 12 #[.slice pa cb.length pc] W (NmPost (nmPs cb) W)) := Li (fun W hW => IH2.out cb pa pc W (fun s hs => by have := mem_b_lt (t := t) (by rw [et]; exact hs); omega) hpb (HO.out.below (hW.mono hB)) (Nat.le_trans hB hW.size) (by omega))
     have FINR : Hid (∀ v4 w4, w4.ownsRow w.heap.size 9 1 v4 (N + (nmE t).length) ((nmEs (l.take k)).map .string ++ (nmE t).map .string) → Below w.heap.size w w4 → NmRel nmEs w l v4 (.int .i64 ((k : Int) + 1)) w4) := Li (fun v4 w4 h1 h2 => NmRel.step (ns := nmE t) ht (by rw [nmEs_append]; simp) (by rw [← hN]; exact h1) h2)
     have HET := Li et
     have EB := Li E0
     clear ht et hxv hvr hxa hpb hkr hor htx hx hwr hb0 E0 hst hle HOWN HBL hN
     subst hW0
     by_cases h1 : kd = 1
     · subst h1
       simp at hNM
       have W1S : Hid (Sl ((wr.alloc (.cells #[.int .i64 1, .int .i64 op, .string tx, .int .i64 v.kd, .bool v.nb, .slice ma v.ms.length mc, .int .u64 v.ub, .string v.tx, .slice ka v.kn kc, .slice sa ca.length sc, .slice pa cb.length pc] 75)).alloc (.cells #[.string tx] 9)) ((wr.heap.size + 1) + 1) (.slice (some ⟨(wr.heap.size + 1), 0, none⟩) 1 1) ([tx].map .string)) := Li (Sl.one _ 9 (.string tx) (by simp))
       have hb1 : Below (wr.alloc (.cells #[.int .i64 1, .int .i64 op, .string tx, .int .i64 v.kd, .bool v.nb, .slice ma v.ms.length mc, .int .u64 v.ub, .string v.tx, .slice ka v.kn kc, .slice sa ca.length sc, .slice pa cb.length pc] 75)).heap.size (wr.alloc (.cells #[.int .i64 1, .int .i64 op, .string tx, .int .i64 v.kd, .bool v.nb, .slice ma v.ms.length mc, .int .u64 v.ub, .string v.tx, .slice ka v.kn kc, .slice sa ca.length sc, .slice pa cb.length pc] 75)) ((wr.alloc (.cells #[.int .i64 1, .int .i64 op, .string tx, .int .i64 v.kd, .bool v.nb, .slice ma v.ms.length mc, .int .u64 v.ub, .string v.tx, .slice ka v.kn kc, .slice sa ca.length sc, .slice pa cb.length pc] 75)).alloc (.cells #[.string tx] 9)) := (Below.refl _ _).alloc (Nat.le_refl _) _
       have OWN1 := Li (own_below OWN.out hb1)
       have BEL1 := Li (BEL.out.trans (hb1.mono BEL.out.size))
       have EB1 := Li (EB.out.below hb1 EB.out.lt)
       have STEP1 : Hid (∀ w2 : World, ((wr.alloc (.cells #[.int .i64 1, .int .i64 op, .string tx, .int .i64 v.kd, .bool v.nb, .slice ma v.ms.length mc, .int .u64 v.ub, .string v.tx, .slice ka v.kn kc, .slice sa ca.length sc, .slice pa cb.length pc] 75)).alloc (.cells #[.string tx] 9)).grownBy w2 u3.ownBlock → Below w.heap.size w w2 ∧ Blk w2 wr.heap.size 75 [.int .i64 1, .int .i64 op, .string tx, .int .i64 v.kd, .bool v.nb, .slice ma v.ms.length mc, .int .u64 v.ub, .string v.tx, .slice ka v.kn kc, .slice sa ca.length sc, .slice pa cb.length pc]) := Li (fun w2 h =>
         ⟨below_grown BEL1.out OWN1.out h BEL1.out.size, EB1.out.far_own OWN1.out (by decide) h⟩)
       clear hb1 OWN BEL EB
       go_wp2_with (at_builtin; refine wpList_append_to _ rfl (.tmp 20) (.tmp 23) 30 rfl w.heap.size 9 iS _ 16 Tryz.underlying30 hiS hzS hsS hbS rfl u3 (N) _ rfl OWN1.out _ _ _ rfl W1S.out (one_str _) (by simp only [List.length_map, List.length_singleton]; unfold maxLen; omega) (by simp only [List.length_map, List.length_singleton]; omega) BEL1.out.size ?_; intro v2 w2 g1 g2 _; have OWN := Li g1; obtain ⟨hbw2, he2⟩ := STEP1.out w2 g2; have BEL := Li hbw2; have EB := Li he2; have d0 := he2.cell 0 (by simp); have d2 := he2.cell 2 (by simp); have d9 := he2.cell 9 (by simp); have d10 := he2.cell 10 (by simp); have le2 := he2.lt; clear g1 g2 hbw2 he2 W1S STEP1 OWN1 BEL1 EB1)
       go_upto_region 7 with fail
       go_cut [3] from 25 to 33 (NmCut w 75 wr.heap.size [.int .i64 1, .int .i64 op, .string tx, .int .i64 v.kd, .bool v.nb, .slice ma v.ms.length mc, .int .u64 v.ub, .string v.tx, .slice ka v.kn kc, .slice sa ca.length sc, .slice pa cb.length pc] (N + ([tx].map Value.string).length + ((nmPs cb).map Value.string).length + ((nmEs ca).map Value.string).length) (((nmEs (l.take k)).map Value.string ++ [tx].map Value.string) ++ (nmPs cb).map .string ++ (nmEs ca).map .string))
       case first =>
         have HV0 : Hid (∀ k, v2.ownBlock = some k → k < w2.heap.size) := Li (fun k hk => (OWN.out.lt k hk).2)
         have OWN : Hid (w2.drew.ownsRow w.heap.size 9 1 v2 (N + ([tx].map Value.string).length) (((nmEs (l.take k)).map Value.string ++ [tx].map Value.string))) := OWN
         have BEL : Hid (Below w.heap.size w w2.drew) := Li (BEL.out.drew)
         have EB : Hid (Blk w2.drew wr.heap.size 75 [.int .i64 1, .int .i64 op, .string tx, .int .i64 v.kd, .bool v.nb, .slice ma v.ms.length mc, .int .u64 v.ub, .string v.tx, .slice ka v.kn kc, .slice sa ca.length sc, .slice pa cb.length pc]) := EB
         have HS : Hid (wr.heap.size < w2.drew.heap.size) := Li (EB.out.lt)
         go_region_held3 (fun w' => w'.cell? ⟨wr.heap.size, 9, none⟩ = some (.slice sa ca.length sc) ∧ w'.cell? ⟨wr.heap.size, 10, none⟩ = some (.slice pa cb.length pc)) (exact ⟨EB.out.cell 9 (by simp), EB.out.cell 10 (by simp)⟩)
           ((first
             | (go_at_call 12; (with_reducible refine (CF.out _ BEL.out).mono ?_); rintro e w3 ⟨v3, rfl, hr3, hb3⟩; have OWN := Li (own_below OWN.out hb3); have BEL := Li (BEL.out.trans (hb3.mono BEL.out.size)); have EB := Li (EB.out.below hb3 EB.out.lt); obtain ⟨a3, c3, hv3, _⟩ := hr3.len; rw [List.length_map] at hv3; subst hv3; have RF := Li hr3; have hs3 := Li hb3.size; clear hr3 hb3)
             | (go_at_call 13; (with_reducible refine (CG.out _ BEL.out).mono ?_); rintro e w5 ⟨v5, rfl, hr5, hb5⟩; have OWN := Li (own_below OWN.out hb5); have BEL := Li (BEL.out.trans (hb5.mono BEL.out.size)); have EB := Li (EB.out.below hb5 EB.out.lt); (try (have RF := Li (RF.out.below hb5))); obtain ⟨a5, c5, hv5, _⟩ := hr5.len; rw [List.length_map] at hv5; subst hv5; have RG := Li hr5; clear hr5 hb5)
             | (refine step_append_to _ rfl (.tmp 25) (.tmp 28) 30 rfl w.heap.size 9 iS _ 16 Tryz.underlying30 hiS hzS hsS hbS rfl (v2) (N + ([tx].map Value.string).length) _ rfl OWN.out _ _ _ rfl RF.out.sl (one_str _) (by simp only [List.length_map, List.length_singleton]; unfold maxLen; omega) (by simp only [List.length_map, List.length_singleton]; omega) BEL.out.size ?_; intro v4 w4 g1 g2 _; have BEL := Li (below_grown BEL.out OWN.out g2 BEL.out.size); have EB := Li (EB.out.far_own OWN.out (by decide) g2); have OWN := Li g1; (try (rename Hid (Rr _ _ _ (List.map Value.string (nmEs ca))) => RG; have RG := Li (RG.out.grown g2 (fun k hk => Nat.lt_of_lt_of_le (HV0.out k hk) hs3.out)))); clear g1 g2)
             | (refine step_append_to _ rfl (.tmp 29) (.tmp 32) 30 rfl w.heap.size 9 iS _ 16 Tryz.underlying30 hiS hzS hsS hbS rfl (v4) (N + ([tx].map Value.string).length + ((nmPs cb).map Value.string).length) _ rfl OWN.out _ _ _ rfl RG.out.sl (one_str _) (by simp only [List.length_map, List.length_singleton]; unfold maxLen; omega) (by simp only [List.length_map, List.length_singleton]; omega) BEL.out.size ?_; intro v6 w6 g1 g2 _; have BEL := Li (below_grown BEL.out OWN.out g2 BEL.out.size); have EB := Li (EB.out.far_own OWN.out (by decide) g2); have OWN := Li g1; clear g1 g2)
             | fail))
         all_goals
           go_wp2_with fail
           go_meet
           exact ⟨OWN.out, BEL.out, EB.out⟩
       case rest =>
       obtain ⟨hown, hbel, heb⟩ := hcut
       have d0 := heb.cell 0 (by simp)
       have d2 := heb.cell 2 (by simp)
       have OWN := Li hown
       have BEL := Li hbel
       have EB := Li heb
       have leb := heb.lt
       clear hown hbel heb
       have FIN := Li (FINR.out _ _ (by exact own_cast OWN.out (by rw [HET.out, nmE_mk]; simp <;> omega) (by rw [HET.out, nmE_mk]; simp)) BEL.out)
       clear OWN BEL EB
       go_wp2_with fail
       go_roundw
       case rel => first | exact FIN.out | ((repeat apply Exists.intro); exact ⟨FIN.out, rfl⟩)
       case measure => simp [intOf]; omega
     by_cases h15 : kd = 15
     · subst h15
       simp at hNM
       have W1S : Hid (Sl ((wr.alloc (.cells #[.int .i64 15, .int .i64 op, .string tx, .int .i64 v.kd, .bool v.nb, .slice ma v.ms.length mc, .int .u64 v.ub, .string v.tx, .slice ka v.kn kc, .slice sa ca.length sc, .slice pa cb.length pc] 75)).alloc (.cells #[.string tx] 9)) ((wr.heap.size + 1) + 1) (.slice (some ⟨(wr.heap.size + 1), 0, none⟩) 1 1) ([tx].map .string)) := Li (Sl.one _ 9 (.string tx) (by simp))
       have hb1 : Below (wr.alloc (.cells #[.int .i64 15, .int .i64 op, .string tx, .int .i64 v.kd, .bool v.nb, .slice ma v.ms.length mc, .int .u64 v.ub, .string v.tx, .slice ka v.kn kc, .slice sa ca.length sc, .slice pa cb.length pc] 75)).heap.size (wr.alloc (.cells #[.int .i64 15, .int .i64 op, .string tx, .int .i64 v.kd, .bool v.nb, .slice ma v.ms.length mc, .int .u64 v.ub, .string v.tx, .slice ka v.kn kc, .slice sa ca.length sc, .slice pa cb.length pc] 75)) ((wr.alloc (.cells #[.int .i64 15, .int .i64 op, .string tx, .int .i64 v.kd, .bool v.nb, .slice ma v.ms.length mc, .int .u64 v.ub, .string v.tx, .slice ka v.kn kc, .slice sa ca.length sc, .slice pa cb.length pc] 75)).alloc (.cells #[.string tx] 9)) := (Below.refl _ _).alloc (Nat.le_refl _) _
       have OWN1 := Li (own_below OWN.out hb1)
       have BEL1 := Li (BEL.out.trans (hb1.mono BEL.out.size))
       have EB1 := Li (EB.out.below hb1 EB.out.lt)
       have STEP1 : Hid (∀ w2 : World, ((wr.alloc (.cells #[.int .i64 15, .int .i64 op, .string tx, .int .i64 v.kd, .bool v.nb, .slice ma v.ms.length mc, .int .u64 v.ub, .string v.tx, .slice ka v.kn kc, .slice sa ca.length sc, .slice pa cb.length pc] 75)).alloc (.cells #[.string tx] 9)).grownBy w2 u3.ownBlock → Below w.heap.size w w2 ∧ Blk w2 wr.heap.size 75 [.int .i64 15, .int .i64 op, .string tx, .int .i64 v.kd, .bool v.nb, .slice ma v.ms.length mc, .int .u64 v.ub, .string v.tx, .slice ka v.kn kc, .slice sa ca.length sc, .slice pa cb.length pc]) := Li (fun w2 h =>
         ⟨below_grown BEL1.out OWN1.out h BEL1.out.size, EB1.out.far_own OWN1.out (by decide) h⟩)
       clear hb1 OWN BEL EB
       go_wp2_with (at_builtin; refine wpList_append_to _ rfl (.tmp 20) (.tmp 23) 30 rfl w.heap.size 9 iS _ 16 Tryz.underlying30 hiS hzS hsS hbS rfl u3 (N) _ rfl OWN1.out _ _ _ rfl W1S.out (one_str _) (by simp only [List.length_map, List.length_singleton]; unfold maxLen; omega) (by simp only [List.length_map, List.length_singleton]; omega) BEL1.out.size ?_; intro v2 w2 g1 g2 _; have OWN := Li g1; obtain ⟨hbw2, he2⟩ := STEP1.out w2 g2; have BEL := Li hbw2; have EB := Li he2; have d0 := he2.cell 0 (by simp); have d2 := he2.cell 2 (by simp); have d9 := he2.cell 9 (by simp); have d10 := he2.cell 10 (by simp); have le2 := he2.lt; clear g1 g2 hbw2 he2 W1S STEP1 OWN1 BEL1 EB1)
       go_upto_region 7 with fail
       go_cut [3] from 25 to 33 (NmCut w 75 wr.heap.size [.int .i64 15, .int .i64 op, .string tx, .int .i64 v.kd, .bool v.nb, .slice ma v.ms.length mc, .int .u64 v.ub, .string v.tx, .slice ka v.kn kc, .slice sa ca.length sc, .slice pa cb.length pc] (N + ([tx].map Value.string).length + ((nmPs cb).map Value.string).length + ((nmEs ca).map Value.string).length) (((nmEs (l.take k)).map Value.string ++ [tx].map Value.string) ++ (nmPs cb).map .string ++ (nmEs ca).map .string))
       case first =>
         have HV0 : Hid (∀ k, v2.ownBlock = some k → k < w2.heap.size) := Li (fun k hk => (OWN.out.lt k hk).2)
         have OWN : Hid (w2.drew.ownsRow w.heap.size 9 1 v2 (N + ([tx].map Value.string).length) (((nmEs (l.take k)).map Value.string ++ [tx].map Value.string))) := OWN
         have BEL : Hid (Below w.heap.size w w2.drew) := Li (BEL.out.drew)
         have EB : Hid (Blk w2.drew wr.heap.size 75 [.int .i64 15, .int .i64 op, .string tx, .int .i64 v.kd, .bool v.nb, .slice ma v.ms.length mc, .int .u64 v.ub, .string v.tx, .slice ka v.kn kc, .slice sa ca.length sc, .slice pa cb.length pc]) := EB
         have HS : Hid (wr.heap.size < w2.drew.heap.size) := Li (EB.out.lt)
         go_region_held3 (fun w' => w'.cell? ⟨wr.heap.size, 9, none⟩ = some (.slice sa ca.length sc) ∧ w'.cell? ⟨wr.heap.size, 10, none⟩ = some (.slice pa cb.length pc)) (exact ⟨EB.out.cell 9 (by simp), EB.out.cell 10 (by simp)⟩)
           ((first
             | (go_at_call 12; (with_reducible refine (CF.out _ BEL.out).mono ?_); rintro e w3 ⟨v3, rfl, hr3, hb3⟩; have OWN := Li (own_below OWN.out hb3); have BEL := Li (BEL.out.trans (hb3.mono BEL.out.size)); have EB := Li (EB.out.below hb3 EB.out.lt); obtain ⟨a3, c3, hv3, _⟩ := hr3.len; rw [List.length_map] at hv3; subst hv3; have RF := Li hr3; have hs3 := Li hb3.size; clear hr3 hb3)
             | (go_at_call 13; (with_reducible refine (CG.out _ BEL.out).mono ?_); rintro e w5 ⟨v5, rfl, hr5, hb5⟩; have OWN := Li (own_below OWN.out hb5); have BEL := Li (BEL.out.trans (hb5.mono BEL.out.size)); have EB := Li (EB.out.below hb5 EB.out.lt); (try (have RF := Li (RF.out.below hb5))); obtain ⟨a5, c5, hv5, _⟩ := hr5.len; rw [List.length_map] at hv5; subst hv5; have RG := Li hr5; clear hr5 hb5)
             | (refine step_append_to _ rfl (.tmp 25) (.tmp 28) 30 rfl w.heap.size 9 iS _ 16 Tryz.underlying30 hiS hzS hsS hbS rfl (v2) (N + ([tx].map Value.string).length) _ rfl OWN.out _ _ _ rfl RF.out.sl (one_str _) (by simp only [List.length_map, List.length_singleton]; unfold maxLen; omega) (by simp only [List.length_map, List.length_singleton]; omega) BEL.out.size ?_; intro v4 w4 g1 g2 _; have BEL := Li (below_grown BEL.out OWN.out g2 BEL.out.size); have EB := Li (EB.out.far_own OWN.out (by decide) g2); have OWN := Li g1; (try (rename Hid (Rr _ _ _ (List.map Value.string (nmEs ca))) => RG; have RG := Li (RG.out.grown g2 (fun k hk => Nat.lt_of_lt_of_le (HV0.out k hk) hs3.out)))); clear g1 g2)
             | (refine step_append_to _ rfl (.tmp 29) (.tmp 32) 30 rfl w.heap.size 9 iS _ 16 Tryz.underlying30 hiS hzS hsS hbS rfl (v4) (N + ([tx].map Value.string).length + ((nmPs cb).map Value.string).length) _ rfl OWN.out _ _ _ rfl RG.out.sl (one_str _) (by simp only [List.length_map, List.length_singleton]; unfold maxLen; omega) (by simp only [List.length_map, List.length_singleton]; omega) BEL.out.size ?_; intro v6 w6 g1 g2 _; have BEL := Li (below_grown BEL.out OWN.out g2 BEL.out.size); have EB := Li (EB.out.far_own OWN.out (by decide) g2); have OWN := Li g1; clear g1 g2)
             | fail))
         all_goals
           go_wp2_with fail
           go_meet
           exact ⟨OWN.out, BEL.out, EB.out⟩
       case rest =>
       obtain ⟨hown, hbel, heb⟩ := hcut
       have d0 := heb.cell 0 (by simp)
       have d2 := heb.cell 2 (by simp)
       have OWN := Li hown
       have BEL := Li hbel
       have EB := Li heb
       have leb := heb.lt
       clear hown hbel heb
       have FIN := Li (FINR.out _ _ (by exact own_cast OWN.out (by rw [HET.out, nmE_mk]; simp <;> omega) (by rw [HET.out, nmE_mk]; simp)) BEL.out)
       clear OWN BEL EB
       go_wp2_with fail
       go_roundw
       case rel => first | exact FIN.out | ((repeat apply Exists.intro); exact ⟨FIN.out, rfl⟩)
       case measure => simp [intOf]; omega
     have k1 : (kd == 1) = false := by rw [beq_eq_false_iff_ne]; exact h1
     have k15 : (kd == 15) = false := by rw [beq_eq_false_iff_ne]; exact h15
     by_cases h13 : kd = 13
     · subst h13
       simp at hNM
       go_upto_region 7 with fail
       go_cut [3] from 25 to 33 (NmCut w 75 wr.heap.size [.int .i64 13, .int .i64 op, .string tx, .int .i64 v.kd, .bool v.nb, .slice ma v.ms.length mc, .int .u64 v.ub, .string v.tx, .slice ka v.kn kc, .slice sa ca.length sc, .slice pa cb.length pc] (N + ((nmPs cb).map Value.string).length + ((nmEs ca).map Value.string).length) ((nmEs (l.take k)).map Value.string ++ (nmPs cb).map .string ++ (nmEs ca).map .string))
       case first =>
         have HV0 : Hid (∀ k, u3.ownBlock = some k → k < (wr.alloc (.cells #[.int .i64 13, .int .i64 op, .string tx, .int .i64 v.kd, .bool v.nb, .slice ma v.ms.length mc, .int .u64 v.ub, .string v.tx, .slice ka v.kn kc, .slice sa ca.length sc, .slice pa cb.length pc] 75)).heap.size) := Li (fun k hk => (OWN.out.lt k hk).2)
         have OWN : Hid ((wr.alloc (.cells #[.int .i64 13, .int .i64 op, .string tx, .int .i64 v.kd, .bool v.nb, .slice ma v.ms.length mc, .int .u64 v.ub, .string v.tx, .slice ka v.kn kc, .slice sa ca.length sc, .slice pa cb.length pc] 75)).drew.ownsRow w.heap.size 9 1 u3 (N) ((nmEs (l.take k)).map Value.string)) := OWN
         have BEL : Hid (Below w.heap.size w (wr.alloc (.cells #[.int .i64 13, .int .i64 op, .string tx, .int .i64 v.kd, .bool v.nb, .slice ma v.ms.length mc, .int .u64 v.ub, .string v.tx, .slice ka v.kn kc, .slice sa ca.length sc, .slice pa cb.length pc] 75)).drew) := Li (BEL.out.drew)
         have EB : Hid (Blk (wr.alloc (.cells #[.int .i64 13, .int .i64 op, .string tx, .int .i64 v.kd, .bool v.nb, .slice ma v.ms.length mc, .int .u64 v.ub, .string v.tx, .slice ka v.kn kc, .slice sa ca.length sc, .slice pa cb.length pc] 75)).drew wr.heap.size 75 [.int .i64 13, .int .i64 op, .string tx, .int .i64 v.kd, .bool v.nb, .slice ma v.ms.length mc, .int .u64 v.ub, .string v.tx, .slice ka v.kn kc, .slice sa ca.length sc, .slice pa cb.length pc]) := EB
         have HS : Hid (wr.heap.size < (wr.alloc (.cells #[.int .i64 13, .int .i64 op, .string tx, .int .i64 v.kd, .bool v.nb, .slice ma v.ms.length mc, .int .u64 v.ub, .string v.tx, .slice ka v.kn kc, .slice sa ca.length sc, .slice pa cb.length pc] 75)).drew.heap.size) := Li (EB.out.lt)
         go_region_held3 (fun w' => w'.cell? ⟨wr.heap.size, 9, none⟩ = some (.slice sa ca.length sc) ∧ w'.cell? ⟨wr.heap.size, 10, none⟩ = some (.slice pa cb.length pc)) (exact ⟨EB.out.cell 9 (by simp), EB.out.cell 10 (by simp)⟩)
           ((first
             | (go_at_call 12; (with_reducible refine (CF.out _ BEL.out).mono ?_); rintro e w3 ⟨v3, rfl, hr3, hb3⟩; have OWN := Li (own_below OWN.out hb3); have BEL := Li (BEL.out.trans (hb3.mono BEL.out.size)); have EB := Li (EB.out.below hb3 EB.out.lt); obtain ⟨a3, c3, hv3, _⟩ := hr3.len; rw [List.length_map] at hv3; subst hv3; have RF := Li hr3; have hs3 := Li hb3.size; clear hr3 hb3)
             | (go_at_call 13; (with_reducible refine (CG.out _ BEL.out).mono ?_); rintro e w5 ⟨v5, rfl, hr5, hb5⟩; have OWN := Li (own_below OWN.out hb5); have BEL := Li (BEL.out.trans (hb5.mono BEL.out.size)); have EB := Li (EB.out.below hb5 EB.out.lt); (try (have RF := Li (RF.out.below hb5))); obtain ⟨a5, c5, hv5, _⟩ := hr5.len; rw [List.length_map] at hv5; subst hv5; have RG := Li hr5; clear hr5 hb5)
             | (refine step_append_to _ rfl (.tmp 25) (.tmp 28) 30 rfl w.heap.size 9 iS _ 16 Tryz.underlying30 hiS hzS hsS hbS rfl (u3) (N) _ rfl OWN.out _ _ _ rfl RF.out.sl (one_str _) (by simp only [List.length_map, List.length_singleton]; unfold maxLen; omega) (by simp only [List.length_map, List.length_singleton]; omega) BEL.out.size ?_; intro v4 w4 g1 g2 _; have BEL := Li (below_grown BEL.out OWN.out g2 BEL.out.size); have EB := Li (EB.out.far_own OWN.out (by decide) g2); have OWN := Li g1; (try (rename Hid (Rr _ _ _ (List.map Value.string (nmEs ca))) => RG; have RG := Li (RG.out.grown g2 (fun k hk => Nat.lt_of_lt_of_le (HV0.out k hk) hs3.out)))); clear g1 g2)
             | (refine step_append_to _ rfl (.tmp 29) (.tmp 32) 30 rfl w.heap.size 9 iS _ 16 Tryz.underlying30 hiS hzS hsS hbS rfl (v4) (N + ((nmPs cb).map Value.string).length) _ rfl OWN.out _ _ _ rfl RG.out.sl (one_str _) (by simp only [List.length_map, List.length_singleton]; unfold maxLen; omega) (by simp only [List.length_map, List.length_singleton]; omega) BEL.out.size ?_; intro v6 w6 g1 g2 _; have BEL := Li (below_grown BEL.out OWN.out g2 BEL.out.size); have EB := Li (EB.out.far_own OWN.out (by decide) g2); have OWN := Li g1; clear g1 g2)
             | fail))
         all_goals
           go_wp2_with fail
           go_meet
           exact ⟨OWN.out, BEL.out, EB.out⟩
       case rest =>
       obtain ⟨hown, hbel, heb⟩ := hcut
       have d0 := heb.cell 0 (by simp)
       have d2 := heb.cell 2 (by simp)
       have OWN := Li hown
       have BEL := Li hbel
       have EB := Li heb
       have leb := heb.lt
       clear hown hbel heb
       have W1S : Hid (Sl (wc.alloc (.cells #[.string tx] 9)) (wc.heap.size + 1) (.slice (some ⟨wc.heap.size, 0, none⟩) 1 1) ([tx].map .string)) := Li (Sl.one _ 9 (.string tx) (by simp))
       have hb1 : Below wc.heap.size wc (wc.alloc (.cells #[.string tx] 9)) := (Below.refl _ _).alloc (Nat.le_refl _) _
       have OWN1 := Li (own_below OWN.out hb1)
       have BEL1 := Li (BEL.out.trans (hb1.mono BEL.out.size))
       have EB1 := Li (EB.out.below hb1 EB.out.lt)
       have STEP1 : Hid (∀ w2 : World, (wc.alloc (.cells #[.string tx] 9)).grownBy w2 u3.ownBlock → Below w.heap.size w w2 ∧ Blk w2 wr.heap.size 75 [.int .i64 13, .int .i64 op, .string tx, .int .i64 v.kd, .bool v.nb, .slice ma v.ms.length mc, .int .u64 v.ub, .string v.tx, .slice ka v.kn kc, .slice sa ca.length sc, .slice pa cb.length pc]) := Li (fun w2 h =>
         ⟨below_grown BEL1.out OWN1.out h BEL1.out.size, EB1.out.far_own OWN1.out (by decide) h⟩)
       clear hb1 OWN BEL EB
       go_wp2_with (at_builtin; refine wpList_append_to _ rfl (.tmp 37) (.tmp 40) 30 rfl w.heap.size 9 iS _ 16 Tryz.underlying30 hiS hzS hsS hbS rfl u3 (N + ((nmPs cb).map Value.string).length + ((nmEs ca).map Value.string).length) _ rfl OWN1.out _ _ _ rfl W1S.out (one_str _) (by simp only [List.length_map, List.length_singleton]; unfold maxLen; omega) (by simp only [List.length_map, List.length_singleton]; omega) BEL1.out.size ?_; intro v2 w2 g1 g2 _; have OWN := Li g1; obtain ⟨hbw2, he2⟩ := STEP1.out w2 g2; have BEL := Li hbw2; have EB := Li he2; have d0 := he2.cell 0 (by simp); have d2 := he2.cell 2 (by simp); have d9 := he2.cell 9 (by simp); have d10 := he2.cell 10 (by simp); have le2 := he2.lt; clear g1 g2 hbw2 he2 W1S STEP1 OWN1 BEL1 EB1)
       have FIN := Li (FINR.out _ _ (by exact own_cast OWN.out (by rw [HET.out, nmE_mk]; simp <;> omega) (by rw [HET.out, nmE_mk]; simp)) BEL.out)
       clear OWN BEL EB
       go_wp2_with fail
       go_roundw
       case rel => first | exact FIN.out | ((repeat apply Exists.intro); exact ⟨FIN.out, rfl⟩)
       case measure => simp [intOf]; omega
     have HK : Hid (¬ (kd = 1 ∨ kd = 15) ∧ ¬ kd = 13) := Li ⟨by omega, h13⟩
     rw [if_neg HK.out.1, if_neg HK.out.2] at hNM
     clear h1 h15
     go_upto_region 7 with fail
     go_cut [3] from 25 to 33 (NmCut w 75 wr.heap.size [.int .i64 kd, .int .i64 op, .string tx, .int .i64 v.kd, .bool v.nb, .slice ma v.ms.length mc, .int .u64 v.ub, .string v.tx, .slice ka v.kn kc, .slice sa ca.length sc, .slice pa cb.length pc] (N + ((nmPs cb).map Value.string).length + ((nmEs ca).map Value.string).length) ((nmEs (l.take k)).map Value.string ++ (nmPs cb).map .string ++ (nmEs ca).map .string))
     case first =>
       have HV0 : Hid (∀ k, u3.ownBlock = some k → k < (wr.alloc (.cells #[.int .i64 kd, .int .i64 op, .string tx, .int .i64 v.kd, .bool v.nb, .slice ma v.ms.length mc, .int .u64 v.ub, .string v.tx, .slice ka v.kn kc, .slice sa ca.length sc, .slice pa cb.length pc] 75)).heap.size) := Li (fun k hk => (OWN.out.lt k hk).2)
       have OWN : Hid ((wr.alloc (.cells #[.int .i64 kd, .int .i64 op, .string tx, .int .i64 v.kd, .bool v.nb, .slice ma v.ms.length mc, .int .u64 v.ub, .string v.tx, .slice ka v.kn kc, .slice sa ca.length sc, .slice pa cb.length pc] 75)).drew.ownsRow w.heap.size 9 1 u3 (N) ((nmEs (l.take k)).map Value.string)) := OWN
       have BEL : Hid (Below w.heap.size w (wr.alloc (.cells #[.int .i64 kd, .int .i64 op, .string tx, .int .i64 v.kd, .bool v.nb, .slice ma v.ms.length mc, .int .u64 v.ub, .string v.tx, .slice ka v.kn kc, .slice sa ca.length sc, .slice pa cb.length pc] 75)).drew) := Li (BEL.out.drew)
       have EB : Hid (Blk (wr.alloc (.cells #[.int .i64 kd, .int .i64 op, .string tx, .int .i64 v.kd, .bool v.nb, .slice ma v.ms.length mc, .int .u64 v.ub, .string v.tx, .slice ka v.kn kc, .slice sa ca.length sc, .slice pa cb.length pc] 75)).drew wr.heap.size 75 [.int .i64 kd, .int .i64 op, .string tx, .int .i64 v.kd, .bool v.nb, .slice ma v.ms.length mc, .int .u64 v.ub, .string v.tx, .slice ka v.kn kc, .slice sa ca.length sc, .slice pa cb.length pc]) := EB
       have HS : Hid (wr.heap.size < (wr.alloc (.cells #[.int .i64 kd, .int .i64 op, .string tx, .int .i64 v.kd, .bool v.nb, .slice ma v.ms.length mc, .int .u64 v.ub, .string v.tx, .slice ka v.kn kc, .slice sa ca.length sc, .slice pa cb.length pc] 75)).drew.heap.size) := Li (EB.out.lt)
       go_region_held3 (fun w' => w'.cell? ⟨wr.heap.size, 9, none⟩ = some (.slice sa ca.length sc) ∧ w'.cell? ⟨wr.heap.size, 10, none⟩ = some (.slice pa cb.length pc)) (exact ⟨EB.out.cell 9 (by simp), EB.out.cell 10 (by simp)⟩)
         ((first
           | (go_at_call 12; (with_reducible refine (CF.out _ BEL.out).mono ?_); rintro e w3 ⟨v3, rfl, hr3, hb3⟩; have OWN := Li (own_below OWN.out hb3); have BEL := Li (BEL.out.trans (hb3.mono BEL.out.size)); have EB := Li (EB.out.below hb3 EB.out.lt); obtain ⟨a3, c3, hv3, _⟩ := hr3.len; rw [List.length_map] at hv3; subst hv3; have RF := Li hr3; have hs3 := Li hb3.size; clear hr3 hb3)
           | (go_at_call 13; (with_reducible refine (CG.out _ BEL.out).mono ?_); rintro e w5 ⟨v5, rfl, hr5, hb5⟩; have OWN := Li (own_below OWN.out hb5); have BEL := Li (BEL.out.trans (hb5.mono BEL.out.size)); have EB := Li (EB.out.below hb5 EB.out.lt); (try (have RF := Li (RF.out.below hb5))); obtain ⟨a5, c5, hv5, _⟩ := hr5.len; rw [List.length_map] at hv5; subst hv5; have RG := Li hr5; clear hr5 hb5)
           | (refine step_append_to _ rfl (.tmp 25) (.tmp 28) 30 rfl w.heap.size 9 iS _ 16 Tryz.underlying30 hiS hzS hsS hbS rfl (u3) (N) _ rfl OWN.out _ _ _ rfl RF.out.sl (one_str _) (by simp only [List.length_map, List.length_singleton]; unfold maxLen; omega) (by simp only [List.length_map, List.length_singleton]; omega) BEL.out.size ?_; intro v4 w4 g1 g2 _; have BEL := Li (below_grown BEL.out OWN.out g2 BEL.out.size); have EB := Li (EB.out.far_own OWN.out (by decide) g2); have OWN := Li g1; (try (rename Hid (Rr _ _ _ (List.map Value.string (nmEs ca))) => RG; have RG := Li (RG.out.grown g2 (fun k hk => Nat.lt_of_lt_of_le (HV0.out k hk) hs3.out)))); clear g1 g2)
           | (refine step_append_to _ rfl (.tmp 29) (.tmp 32) 30 rfl w.heap.size 9 iS _ 16 Tryz.underlying30 hiS hzS hsS hbS rfl (v4) (N + ((nmPs cb).map Value.string).length) _ rfl OWN.out _ _ _ rfl RG.out.sl (one_str _) (by simp only [List.length_map, List.length_singleton]; unfold maxLen; omega) (by simp only [List.length_map, List.length_singleton]; omega) BEL.out.size ?_; intro v6 w6 g1 g2 _; have BEL := Li (below_grown BEL.out OWN.out g2 BEL.out.size); have EB := Li (EB.out.far_own OWN.out (by decide) g2); have OWN := Li g1; clear g1 g2)
           | fail))
       all_goals
         go_wp2_with fail
         go_meet
         exact ⟨OWN.out, BEL.out, EB.out⟩
     case rest =>
     obtain ⟨hown, hbel, heb⟩ := hcut
     have d0 := heb.cell 0 (by simp)
     have d2 := heb.cell 2 (by simp)
     have OWN := Li hown
     have BEL := Li hbel
     have EB := Li heb
     have leb := heb.lt
     clear hown hbel heb
     have FIN := Li (FINR.out _ _ (by exact own_cast OWN.out (by rw [HET.out, nmE_mk, if_neg HK.out.1, if_neg HK.out.2]; simp <;> omega) (by rw [HET.out, nmE_mk, if_neg HK.out.1, if_neg HK.out.2]; simp)) BEL.out)
     clear OWN BEL EB
     go_wp2_with fail
     go_roundw
     case rel => first | exact FIN.out | ((repeat apply Exists.intro); exact ⟨FIN.out, rfl⟩)
     case measure => simp [intOf]; omega
   · obtain rfl : k = l.length := by omega
     have FIN := Li (NmRel.fin HOWN.out HBL.out)
     clear HOWN HBL
     go_wp2_with fail
     go_ret
     exact FIN.out
end Go.Proofs.YtoojgjhfmmohbaaGreat
