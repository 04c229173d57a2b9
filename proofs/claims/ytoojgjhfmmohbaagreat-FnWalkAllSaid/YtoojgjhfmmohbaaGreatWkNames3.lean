/- spec.walkExprs, walkParams at any lists; spec.WalkNames (printed by genwknames3.py). -/
import Derived.Test.YtoojgjhfmmohbaaGreatMNamesa
namespace Go.Proofs.YtoojgjhfmmohbaaGreat
open Go.RowKit Dig
set_option linter.unusedVariables false
set_option linter.unusedSimpArgs false
set_option maxRecDepth 100000
set_option maxHeartbeats 800000 in
theorem exprs_none (a : Option Addr) (c : Nat) (w : World) : Calls Tryz.prog 13 #[.slice a 0 c] w (NmPost [] w) := by
 have FIN : Hid (NmPost [] w (.returned (.slice none 0 0)) w) := Li ⟨_, rfl, ⟨none, 0, rfl, Nat.le_refl _, Nat.zero_le _, fun h => absurd rfl h⟩, Below.refl _ _⟩
 go_enter Tryz.func13, Tryz.ntmps13
 go_wp2_with fail
 go_loop [3, 8] (fun v i => v = .slice none 0 0 ∧ i = .int .i64 0) (fun _ _ => 1)
 case atStart => exact ⟨rfl, rfl⟩
 case round =>
   obtain ⟨rfl, rfl⟩ := hrel
   go_wp2_with fail
   go_ret
   exact FIN.out
set_option maxHeartbeats 800000 in
theorem params_none (a : Option Addr) (c : Nat) (w : World) : Calls Tryz.prog 12 #[.slice a 0 c] w (NmPost [] w) := by
 have FIN : Hid (NmPost [] w (.returned (.slice none 0 0)) w) := Li ⟨_, rfl, ⟨none, 0, rfl, Nat.le_refl _, Nat.zero_le _, fun h => absurd rfl h⟩, Below.refl _ _⟩
 go_enter Tryz.func12, Tryz.ntmps12
 go_wp2_with fail
 go_loop [3, 8] (fun v i => v = .slice none 0 0 ∧ i = .int .i64 0) (fun _ _ => 1)
 case atStart => exact ⟨rfl, rfl⟩
 case round =>
   obtain ⟨rfl, rfl⟩ := hrel
   go_wp2_with fail
   go_ret
   exact FIN.out
theorem nil_of_small {l : List Tr} (h : ∀ t ∈ l, SizeOf.sizeOf t < 0) : l = [] := by
 cases l with
 | nil => rfl
 | cons t l => exact absurd (h t (by simp)) (by omega)
theorem names_upto (R : Nat → Nat → Option Value) (B n : Nat) : NmE R B n ∧ NmP R B n := by
 induction n with
 | zero =>
   constructor
   · intro l a c w hsz _ _ _ _
     obtain rfl := nil_of_small hsz
     exact exprs_none a c w
   · intro l a c w hsz _ _ _ _
     obtain rfl := nil_of_small hsz
     exact params_none a c w
 | succ n ih => exact ⟨exprs_step R B n ih.1 ih.2, params_step R B n ih.1⟩
theorem walkExprs_any (R : Nat → Nat → Option Value) (B : Nat) (l : List Tr) (a : Option Addr) (c : Nat) (w : World) (hl : ExL R l (.slice a l.length c)) (ho : Old R B w) (hB : B ≤ w.heap.size) (h : (nmEs l).length ≤ 4096) :
   Calls Tryz.prog 13 #[.slice a l.length c] w (NmPost (nmEs l) w) := (names_upto R B (SizeOf.sizeOf l)).1 l a c w (fun t ht => List.sizeOf_lt_of_mem ht) hl ho hB h
theorem walkParams_any (R : Nat → Nat → Option Value) (B : Nat) (l : List Tr) (a : Option Addr) (c : Nat) (w : World) (hl : PaL R l (.slice a l.length c)) (ho : Old R B w) (hB : B ≤ w.heap.size) (h : (nmPs l).length ≤ 4096) :
   Calls Tryz.prog 12 #[.slice a l.length c] w (NmPost (nmPs l) w) := (names_upto R B (SizeOf.sizeOf l)).2 l a c w (fun t ht => List.sizeOf_lt_of_mem ht) hl ho hB h
def NmSt (R : Nat → Nat → Option Value) (B n : Nat) : Prop := ∀ (l : List Tr) (a : Option Addr) (c : Nat) (w : World), (∀ t ∈ l, SizeOf.sizeOf t < n) → StL R l (.slice a l.length c) → Old R B w → B ≤ w.heap.size → (nmSs l).length ≤ 4096 →
 Calls Tryz.prog 9 #[.slice a l.length c] w (NmPost (nmSs l) w)
set_option maxHeartbeats 800000 in
theorem stmts_none (a : Option Addr) (c : Nat) (w : World) : Calls Tryz.prog 9 #[.slice a 0 c] w (NmPost [] w) := by
 have FIN : Hid (NmPost [] w (.returned (.slice none 0 0)) w) := Li ⟨_, rfl, ⟨none, 0, rfl, Nat.le_refl _, Nat.zero_le _, fun h => absurd rfl h⟩, Below.refl _ _⟩
 go_enter Tryz.func9, Tryz.ntmps9
 go_wp2_with fail
 go_loop [3, 8] (fun v i => v = .slice none 0 0 ∧ i = .int .i64 0) (fun _ _ => 1)
 case atStart => exact ⟨rfl, rfl⟩
 case round =>
   obtain ⟨rfl, rfl⟩ := hrel
   go_wp2_with fail
   go_ret
   exact FIN.out
set_option maxHeartbeats 6400000 in
theorem stmts_step (R : Nat → Nat → Option Value) (B n : Nat) (IHS : NmSt R B n) : NmSt R B (n + 1) := by
 intro l a c w hsz hl ho hB hlen
 obtain ⟨iS, hiS, hzS, hsS, hbS⟩ := info_parts infoStr
 obtain ⟨a', c', e, hc, hm, hrow⟩ := hl.form
 simp only [Value.slice.injEq, true_and] at e
 obtain ⟨rfl, rfl⟩ := e
 unfold maxLen at hm
 have START : Hid (NmRel nmSs w l (.slice none 0 0) (.int .i64 0) w) := Li ⟨0, Nat.zero_le _, rfl, Li (by simpa using World.ownsRow_nil w w.heap.size 9 1), Li (Below.refl _ _)⟩
 have HO := Li ho; have HR := Li hrow; have HSZ := Li hsz; have IH := Li IHS; have HLEN := Li hlen
 clear hsz hl ho hrow IHS hlen
 go_enter Tryz.func9, Tryz.ntmps9
 go_wp2_with fail
 go_loopw [3, 8] (NmRel nmSs w l) (fun _ i _ => l.length - (intOf i).toNat)
 case atStart => exact START.out
 case round =>
   obtain ⟨k, hk, rfl, HOWN, HBL⟩ := hrel
   clear START
   by_cases hlt : k < l.length
   · obtain ⟨t, ht⟩ : ∃ t, l[k]? = some t := ⟨_, List.getElem?_eq_getElem hlt⟩
     have hwr : Old R B wr := HO.out.below (HBL.out.mono hB)
     obtain ⟨b, o, rfl, hx⟩ := HR.out (by intro h; rw [h] at hlt; simp at hlt)
     obtain ⟨kd, op, tx, v, nm, ca, cb, cc, cd, na, nc, sa, sc, pa, pc, ba, bc, ea, ec, et, hxv, ⟨hsn, hzn, hxa, hpb, hsc, hsd, hkr, hor, htx⟩, hbB, c0, c1, c2, c3, c4, c5, c6, c7⟩ := (hx k t ht).cells hwr
     obtain ⟨W0, hW0⟩ : ∃ W0, W0 = (wr.alloc (.cells #[.int .i64 kd, .int .i64 op, .string tx, .slice na nm.length nc, .slice sa ca.length sc, .slice pa cb.length pc, .slice ba cc.length bc, .slice ea cd.length ec] 42)) := ⟨_, rfl⟩
     have hb0 : Below wr.heap.size wr W0 := by rw [hW0]; exact (Below.refl _ _).alloc (Nat.le_refl _) _
     have E0 : Blk W0 wr.heap.size 42 [.int .i64 kd, .int .i64 op, .string tx, .slice na nm.length nc, .slice sa ca.length sc, .slice pa cb.length pc, .slice ba cc.length bc, .slice ea cd.length ec] := by rw [hW0]; exact Blk.new wr _ _
     have hle := len_take nmSs_append ht
     obtain ⟨N, hN⟩ : ∃ N, N = (nmSs (l.take k)).length := ⟨_, rfl⟩
     have hNM : N + (if kd = 3 then 1 else 0) + (nmPs cb).length + (nmEs ca).length + (nmSs cc).length + (nmSs cd).length ≤ 4096 := by
       have h1 : (nmSs [t]).length = (if kd = 3 then 1 else 0) + (nmPs cb).length + (nmEs ca).length + (nmSs cc).length + (nmSs cd).length := by
         rw [et]; simp only [nmSs_cons, nmSs_nil, nmS_mk, List.length_append, List.length_nil, Nat.add_zero]
         split <;> simp <;> omega
       rw [h1, ← hN] at hle
       have := HLEN.out
       omega
     have OWN := Li (own_below HOWN.out hb0)
     have BEL := Li (HBL.out.trans (hb0.mono HBL.out.size))
     rw [← hN] at OWN
     have hst := HSZ.out t (List.mem_of_getElem? ht)
     have CP : Hid (∀ W, Below w.heap.size w W → Calls Tryz.prog 12 #[.slice pa cb.length pc] W (NmPost (nmPs cb) W)) := Li (fun W hW => walkParams_any R B cb pa pc W hpb (HO.out.below (hW.mono hB)) (Nat.le_trans hB hW.size) (by omega))
     have CF : Hid (∀ W, Below w.heap.size w W → Calls Tryz.prog 13 #[.slice sa ca.length sc] W (NmPost (nmEs ca) W)) := Li (fun W hW => walkExprs_any R B ca sa sc W hxa (HO.out.below (hW.mono hB)) (Nat.le_trans hB hW.size) (by omega))
     have CG : Hid (∀ W, Below w.heap.size w W → Calls Tryz.prog 9 #[.slice ba cc.length bc] W (NmPost (nmSs cc) W)) := Li (fun W hW => IH.out cc ba bc W (fun s hs => by have := mem_c_lt (t := t) (by rw [et]; exact hs); omega) hsc (HO.out.below (hW.mono hB)) (Nat.le_trans hB hW.size) (by omega))
     have CD : Hid (∀ W, Below w.heap.size w W → Calls Tryz.prog 9 #[.slice ea cd.length ec] W (NmPost (nmSs cd) W)) := Li (fun W hW => IH.out cd ea ec W (fun s hs => by have := mem_d_lt (t := t) (by rw [et]; exact hs); omega) hsd (HO.out.below (hW.mono hB)) (Nat.le_trans hB hW.size) (by omega))
     have FINR : Hid (∀ v4 w4, w4.ownsRow w.heap.size 9 1 v4 (N + (nmS t).length) ((nmSs (l.take k)).map .string ++ (nmS t).map .string) → Below w.heap.size w w4 → NmRel nmSs w l v4 (.int .i64 ((k : Int) + 1)) w4) := Li (fun v4 w4 h1 h2 => NmRel.step (ns := nmS t) ht (by rw [nmSs_append]; simp) (by rw [← hN]; exact h1) h2)
     have HET := Li et
     have EB := Li E0
     clear ht et hxv hsn hzn hxa hpb hsc hsd hkr hor htx hx hwr hb0 E0 hst hle HOWN HBL hN
     subst hW0
     by_cases h3 : kd = 3
     · subst h3
       simp at hNM
       have W1S : Hid (Sl ((wr.alloc (.cells #[.int .i64 3, .int .i64 op, .string tx, .slice na nm.length nc, .slice sa ca.length sc, .slice pa cb.length pc, .slice ba cc.length bc, .slice ea cd.length ec] 42)).alloc (.cells #[.string tx] 9)) ((wr.heap.size + 1) + 1) (.slice (some ⟨(wr.heap.size + 1), 0, none⟩) 1 1) ([tx].map .string)) := Li (Sl.one _ 9 (.string tx) (by simp))
       have hb1 : Below (wr.alloc (.cells #[.int .i64 3, .int .i64 op, .string tx, .slice na nm.length nc, .slice sa ca.length sc, .slice pa cb.length pc, .slice ba cc.length bc, .slice ea cd.length ec] 42)).heap.size (wr.alloc (.cells #[.int .i64 3, .int .i64 op, .string tx, .slice na nm.length nc, .slice sa ca.length sc, .slice pa cb.length pc, .slice ba cc.length bc, .slice ea cd.length ec] 42)) ((wr.alloc (.cells #[.int .i64 3, .int .i64 op, .string tx, .slice na nm.length nc, .slice sa ca.length sc, .slice pa cb.length pc, .slice ba cc.length bc, .slice ea cd.length ec] 42)).alloc (.cells #[.string tx] 9)) := (Below.refl _ _).alloc (Nat.le_refl _) _
       have OWN1 := Li (own_below OWN.out hb1)
       have BEL1 := Li (BEL.out.trans (hb1.mono BEL.out.size))
       have EB1 := Li (EB.out.below hb1 EB.out.lt)
       have STEP1 : Hid (∀ w2 : World, ((wr.alloc (.cells #[.int .i64 3, .int .i64 op, .string tx, .slice na nm.length nc, .slice sa ca.length sc, .slice pa cb.length pc, .slice ba cc.length bc, .slice ea cd.length ec] 42)).alloc (.cells #[.string tx] 9)).grownBy w2 u3.ownBlock → Below w.heap.size w w2 ∧ Blk w2 wr.heap.size 42 [.int .i64 3, .int .i64 op, .string tx, .slice na nm.length nc, .slice sa ca.length sc, .slice pa cb.length pc, .slice ba cc.length bc, .slice ea cd.length ec]) := Li (fun w2 h =>
         ⟨below_grown BEL1.out OWN1.out h BEL1.out.size, EB1.out.far_own OWN1.out (by decide) h⟩)
       clear hb1 OWN BEL EB
       go_wp2_with (at_builtin; refine wpList_append_to _ rfl (.tmp 15) (.tmp 18) 30 rfl w.heap.size 9 iS _ 16 Tryz.underlying30 hiS hzS hsS hbS rfl u3 (N) _ rfl OWN1.out _ _ _ rfl W1S.out (one_str _) (by simp only [List.length_map, List.length_singleton]; unfold maxLen; omega) (by simp only [List.length_map, List.length_singleton]; omega) BEL1.out.size ?_; intro v2 w2 g1 g2 _; have OWN := Li g1; obtain ⟨hbw2, he2⟩ := STEP1.out w2 g2; have BEL := Li hbw2; have EB := Li he2; have d5 := he2.cell 5 (by simp); have le2 := he2.lt; clear g1 g2 hbw2 he2 W1S STEP1 OWN1 BEL1 EB1)
       go_wp2_with fail
       with_reducible refine (CP.out _ BEL.out).mono ?_
       rintro e w3 ⟨v3, rfl, hr3, hb3⟩
       have OWN := Li (own_below OWN.out hb3)
       have BEL := Li (BEL.out.trans (hb3.mono BEL.out.size))
       have EB := Li (EB.out.below hb3 EB.out.lt)
       obtain ⟨a3, c3, hv3, _⟩ := hr3.len
       rw [List.length_map] at hv3
       subst hv3
       have RF := Li hr3
       clear hr3 hb3
       have STEP1 : Hid (∀ w2 : World, w3.grownBy w2 (v2).ownBlock → Below w.heap.size w w2 ∧ Blk w2 wr.heap.size 42 [.int .i64 3, .int .i64 op, .string tx, .slice na nm.length nc, .slice sa ca.length sc, .slice pa cb.length pc, .slice ba cc.length bc, .slice ea cd.length ec]) := Li (fun w2 h =>
         ⟨below_grown BEL.out OWN.out h BEL.out.size, EB.out.far_own OWN.out (by decide) h⟩)
       go_wp2_with (at_builtin; refine wpList_append_to _ rfl (.tmp 20) (.tmp 23) 30 rfl w.heap.size 9 iS _ 16 Tryz.underlying30 hiS hzS hsS hbS rfl (v2) (N + ([tx].map Value.string).length) _ rfl OWN.out _ _ _ rfl RF.out.sl (one_str _) (by simp only [List.length_map, List.length_singleton]; unfold maxLen; omega) (by simp only [List.length_map, List.length_singleton]; omega) BEL.out.size ?_; intro v7 w7 g1 g2 _; have OWN := Li g1; obtain ⟨hbw2, he2⟩ := STEP1.out w7 g2; have BEL := Li hbw2; have EB := Li he2; have d4 := he2.cell 4 (by simp); have d6 := he2.cell 6 (by simp); have le7 := he2.lt; clear g1 g2 hbw2 he2 RF STEP1)
       go_upto_region 8 with fail
       go_cut [3] from 25 to 33 (NmCut w 42 wr.heap.size [.int .i64 3, .int .i64 op, .string tx, .slice na nm.length nc, .slice sa ca.length sc, .slice pa cb.length pc, .slice ba cc.length bc, .slice ea cd.length ec] (N + ([tx].map Value.string).length + ((nmPs cb).map Value.string).length + ((nmEs ca).map Value.string).length + ((nmSs cc).map Value.string).length) (((nmSs (l.take k)).map Value.string ++ [tx].map Value.string) ++ (nmPs cb).map Value.string ++ (nmEs ca).map .string ++ (nmSs cc).map .string))
       case first =>
         have HV0 : Hid (∀ k, v7.ownBlock = some k → k < w7.heap.size) := Li (fun k hk => (OWN.out.lt k hk).2)
         have OWN : Hid (w7.drew.ownsRow w.heap.size 9 1 v7 (N + ([tx].map Value.string).length + ((nmPs cb).map Value.string).length) (((nmSs (l.take k)).map Value.string ++ [tx].map Value.string) ++ (nmPs cb).map Value.string)) := OWN
         have BEL : Hid (Below w.heap.size w w7.drew) := Li (BEL.out.drew)
         have EB : Hid (Blk w7.drew wr.heap.size 42 [.int .i64 3, .int .i64 op, .string tx, .slice na nm.length nc, .slice sa ca.length sc, .slice pa cb.length pc, .slice ba cc.length bc, .slice ea cd.length ec]) := EB
         have HS : Hid (wr.heap.size < w7.drew.heap.size) := Li (EB.out.lt)
         go_region_held3 (fun w' => w'.cell? ⟨wr.heap.size, 4, none⟩ = some (.slice sa ca.length sc) ∧ w'.cell? ⟨wr.heap.size, 6, none⟩ = some (.slice ba cc.length bc)) (exact ⟨EB.out.cell 4 (by simp), EB.out.cell 6 (by simp)⟩)
           ((first
             | (go_at_call 13; (with_reducible refine (CF.out _ BEL.out).mono ?_); rintro e w3 ⟨v3, rfl, hr3, hb3⟩; have OWN := Li (own_below OWN.out hb3); have BEL := Li (BEL.out.trans (hb3.mono BEL.out.size)); have EB := Li (EB.out.below hb3 EB.out.lt); obtain ⟨a3, c3, hv3, _⟩ := hr3.len; rw [List.length_map] at hv3; subst hv3; have RF := Li hr3; have hs3 := Li hb3.size; clear hr3 hb3)
             | (go_at_call 9; (with_reducible refine (CG.out _ BEL.out).mono ?_); rintro e w5 ⟨v5, rfl, hr5, hb5⟩; have OWN := Li (own_below OWN.out hb5); have BEL := Li (BEL.out.trans (hb5.mono BEL.out.size)); have EB := Li (EB.out.below hb5 EB.out.lt); (try (have RF := Li (RF.out.below hb5))); obtain ⟨a5, c5, hv5, _⟩ := hr5.len; rw [List.length_map] at hv5; subst hv5; have RG := Li hr5; clear hr5 hb5)
             | (refine step_append_to _ rfl (.tmp 25) (.tmp 28) 30 rfl w.heap.size 9 iS _ 16 Tryz.underlying30 hiS hzS hsS hbS rfl (v7) (N + ([tx].map Value.string).length + ((nmPs cb).map Value.string).length) _ rfl OWN.out _ _ _ rfl RF.out.sl (one_str _) (by simp only [List.length_map, List.length_singleton]; unfold maxLen; omega) (by simp only [List.length_map, List.length_singleton]; omega) BEL.out.size ?_; intro v4 w4 g1 g2 _; have BEL := Li (below_grown BEL.out OWN.out g2 BEL.out.size); have EB := Li (EB.out.far_own OWN.out (by decide) g2); have OWN := Li g1; (try (rename Hid (Rr _ _ _ (List.map Value.string (nmSs cc))) => RG; have RG := Li (RG.out.grown g2 (fun k hk => Nat.lt_of_lt_of_le (HV0.out k hk) hs3.out)))); clear g1 g2)
             | (refine step_append_to _ rfl (.tmp 29) (.tmp 32) 30 rfl w.heap.size 9 iS _ 16 Tryz.underlying30 hiS hzS hsS hbS rfl (v4) (N + ([tx].map Value.string).length + ((nmPs cb).map Value.string).length + ((nmEs ca).map Value.string).length) _ rfl OWN.out _ _ _ rfl RG.out.sl (one_str _) (by simp only [List.length_map, List.length_singleton]; unfold maxLen; omega) (by simp only [List.length_map, List.length_singleton]; omega) BEL.out.size ?_; intro v6 w6 g1 g2 _; have BEL := Li (below_grown BEL.out OWN.out g2 BEL.out.size); have EB := Li (EB.out.far_own OWN.out (by decide) g2); have OWN := Li g1; clear g1 g2)
             | fail))
         all_goals
           go_wp2_with fail
           go_meet
           exact ⟨OWN.out, BEL.out, EB.out⟩
       case rest =>
       obtain ⟨hown, hbel, heb⟩ := hcut
       have d7 := heb.cell 7 (by simp)
       have OWN := Li hown
       have BEL := Li hbel
       have EB := Li heb
       have leb := heb.lt
       clear hown hbel heb
       go_wp2_with fail
       with_reducible refine (CD.out _ BEL.out).mono ?_
       rintro e w3 ⟨v3, rfl, hr3, hb3⟩
       have OWN := Li (own_below OWN.out hb3)
       have BEL := Li (BEL.out.trans (hb3.mono BEL.out.size))
       have EB := Li (EB.out.below hb3 EB.out.lt)
       obtain ⟨a3, c3, hv3, _⟩ := hr3.len
       rw [List.length_map] at hv3
       subst hv3
       have RF := Li hr3
       clear hr3 hb3
       have STEP1 : Hid (∀ w2 : World, w3.grownBy w2 (u3).ownBlock → Below w.heap.size w w2 ∧ Blk w2 wr.heap.size 42 [.int .i64 3, .int .i64 op, .string tx, .slice na nm.length nc, .slice sa ca.length sc, .slice pa cb.length pc, .slice ba cc.length bc, .slice ea cd.length ec]) := Li (fun w2 h =>
         ⟨below_grown BEL.out OWN.out h BEL.out.size, EB.out.far_own OWN.out (by decide) h⟩)
       go_wp2_with (at_builtin; refine wpList_append_to _ rfl (.tmp 34) (.tmp 37) 30 rfl w.heap.size 9 iS _ 16 Tryz.underlying30 hiS hzS hsS hbS rfl (u3) (N + ([tx].map Value.string).length + ((nmPs cb).map Value.string).length + ((nmEs ca).map Value.string).length + ((nmSs cc).map Value.string).length) _ rfl OWN.out _ _ _ rfl RF.out.sl (one_str _) (by simp only [List.length_map, List.length_singleton]; unfold maxLen; omega) (by simp only [List.length_map, List.length_singleton]; omega) BEL.out.size ?_; intro v7 w7 g1 g2 _; have OWN := Li g1; obtain ⟨hbw2, he2⟩ := STEP1.out w7 g2; have BEL := Li hbw2; have EB := Li he2; have d0 := he2.cell 0 (by simp); have le7 := he2.lt; clear g1 g2 hbw2 he2 RF STEP1)
       have FIN := Li (FINR.out _ _ (by exact own_cast OWN.out (by rw [HET.out, nmS_mk]; simp <;> omega) (by rw [HET.out, nmS_mk]; simp)) BEL.out)
       clear OWN BEL EB
       go_roundw
       case rel => first | exact FIN.out | ((repeat apply Exists.intro); exact ⟨FIN.out, rfl⟩)
       case measure => simp [intOf]; omega
     have HK : Hid (¬ kd = 3) := Li h3
     have k3 : (kd == 3) = false := by rw [beq_eq_false_iff_ne]; exact h3
     rw [if_neg h3] at hNM
     clear h3
     go_wp2_with fail
     with_reducible refine (CP.out _ BEL.out).mono ?_
     rintro e w3 ⟨v3, rfl, hr3, hb3⟩
     have OWN := Li (own_below OWN.out hb3)
     have BEL := Li (BEL.out.trans (hb3.mono BEL.out.size))
     have EB := Li (EB.out.below hb3 EB.out.lt)
     obtain ⟨a3, c3, hv3, _⟩ := hr3.len
     rw [List.length_map] at hv3
     subst hv3
     have RF := Li hr3
     clear hr3 hb3
     have STEP1 : Hid (∀ w2 : World, w3.grownBy w2 (u3).ownBlock → Below w.heap.size w w2 ∧ Blk w2 wr.heap.size 42 [.int .i64 kd, .int .i64 op, .string tx, .slice na nm.length nc, .slice sa ca.length sc, .slice pa cb.length pc, .slice ba cc.length bc, .slice ea cd.length ec]) := Li (fun w2 h =>
       ⟨below_grown BEL.out OWN.out h BEL.out.size, EB.out.far_own OWN.out (by decide) h⟩)
     go_wp2_with (at_builtin; refine wpList_append_to _ rfl (.tmp 20) (.tmp 23) 30 rfl w.heap.size 9 iS _ 16 Tryz.underlying30 hiS hzS hsS hbS rfl (u3) (N) _ rfl OWN.out _ _ _ rfl RF.out.sl (one_str _) (by simp only [List.length_map, List.length_singleton]; unfold maxLen; omega) (by simp only [List.length_map, List.length_singleton]; omega) BEL.out.size ?_; intro v7 w7 g1 g2 _; have OWN := Li g1; obtain ⟨hbw2, he2⟩ := STEP1.out w7 g2; have BEL := Li hbw2; have EB := Li he2; have d4 := he2.cell 4 (by simp); have d6 := he2.cell 6 (by simp); have le7 := he2.lt; clear g1 g2 hbw2 he2 RF STEP1)
     go_upto_region 8 with fail
     go_cut [3] from 25 to 33 (NmCut w 42 wr.heap.size [.int .i64 kd, .int .i64 op, .string tx, .slice na nm.length nc, .slice sa ca.length sc, .slice pa cb.length pc, .slice ba cc.length bc, .slice ea cd.length ec] (N + ((nmPs cb).map Value.string).length + ((nmEs ca).map Value.string).length + ((nmSs cc).map Value.string).length) ((nmSs (l.take k)).map Value.string ++ (nmPs cb).map Value.string ++ (nmEs ca).map .string ++ (nmSs cc).map .string))
     case first =>
       have HV0 : Hid (∀ k, v7.ownBlock = some k → k < w7.heap.size) := Li (fun k hk => (OWN.out.lt k hk).2)
       have OWN : Hid (w7.drew.ownsRow w.heap.size 9 1 v7 (N + ((nmPs cb).map Value.string).length) ((nmSs (l.take k)).map Value.string ++ (nmPs cb).map Value.string)) := OWN
       have BEL : Hid (Below w.heap.size w w7.drew) := Li (BEL.out.drew)
       have EB : Hid (Blk w7.drew wr.heap.size 42 [.int .i64 kd, .int .i64 op, .string tx, .slice na nm.length nc, .slice sa ca.length sc, .slice pa cb.length pc, .slice ba cc.length bc, .slice ea cd.length ec]) := EB
       have HS : Hid (wr.heap.size < w7.drew.heap.size) := Li (EB.out.lt)
       go_region_held3 (fun w' => w'.cell? ⟨wr.heap.size, 4, none⟩ = some (.slice sa ca.length sc) ∧ w'.cell? ⟨wr.heap.size, 6, none⟩ = some (.slice ba cc.length bc)) (exact ⟨EB.out.cell 4 (by simp), EB.out.cell 6 (by simp)⟩)
         ((first
           | (go_at_call 13; (with_reducible refine (CF.out _ BEL.out).mono ?_); rintro e w3 ⟨v3, rfl, hr3, hb3⟩; have OWN := Li (own_below OWN.out hb3); have BEL := Li (BEL.out.trans (hb3.mono BEL.out.size)); have EB := Li (EB.out.below hb3 EB.out.lt); obtain ⟨a3, c3, hv3, _⟩ := hr3.len; rw [List.length_map] at hv3; subst hv3; have RF := Li hr3; have hs3 := Li hb3.size; clear hr3 hb3)
           | (go_at_call 9; (with_reducible refine (CG.out _ BEL.out).mono ?_); rintro e w5 ⟨v5, rfl, hr5, hb5⟩; have OWN := Li (own_below OWN.out hb5); have BEL := Li (BEL.out.trans (hb5.mono BEL.out.size)); have EB := Li (EB.out.below hb5 EB.out.lt); (try (have RF := Li (RF.out.below hb5))); obtain ⟨a5, c5, hv5, _⟩ := hr5.len; rw [List.length_map] at hv5; subst hv5; have RG := Li hr5; clear hr5 hb5)
           | (refine step_append_to _ rfl (.tmp 25) (.tmp 28) 30 rfl w.heap.size 9 iS _ 16 Tryz.underlying30 hiS hzS hsS hbS rfl (v7) (N + ((nmPs cb).map Value.string).length) _ rfl OWN.out _ _ _ rfl RF.out.sl (one_str _) (by simp only [List.length_map, List.length_singleton]; unfold maxLen; omega) (by simp only [List.length_map, List.length_singleton]; omega) BEL.out.size ?_; intro v4 w4 g1 g2 _; have BEL := Li (below_grown BEL.out OWN.out g2 BEL.out.size); have EB := Li (EB.out.far_own OWN.out (by decide) g2); have OWN := Li g1; (try (rename Hid (Rr _ _ _ (List.map Value.string (nmSs cc))) => RG; have RG := Li (RG.out.grown g2 (fun k hk => Nat.lt_of_lt_of_le (HV0.out k hk) hs3.out)))); clear g1 g2)
           | (refine step_append_to _ rfl (.tmp 29) (.tmp 32) 30 rfl w.heap.size 9 iS _ 16 Tryz.underlying30 hiS hzS hsS hbS rfl (v4) (N + ((nmPs cb).map Value.string).length + ((nmEs ca).map Value.string).length) _ rfl OWN.out _ _ _ rfl RG.out.sl (one_str _) (by simp only [List.length_map, List.length_singleton]; unfold maxLen; omega) (by simp only [List.length_map, List.length_singleton]; omega) BEL.out.size ?_; intro v6 w6 g1 g2 _; have BEL := Li (below_grown BEL.out OWN.out g2 BEL.out.size); have EB := Li (EB.out.far_own OWN.out (by decide) g2); have OWN := Li g1; clear g1 g2)
           | fail))
       all_goals
         go_wp2_with fail
         go_meet
         exact ⟨OWN.out, BEL.out, EB.out⟩
     case rest =>
     obtain ⟨hown, hbel, heb⟩ := hcut
     have d7 := heb.cell 7 (by simp)
     have OWN := Li hown
     have BEL := Li hbel
     have EB := Li heb
     have leb := heb.lt
     clear hown hbel heb
     go_wp2_with fail
     with_reducible refine (CD.out _ BEL.out).mono ?_
     rintro e w3 ⟨v3, rfl, hr3, hb3⟩
     have OWN := Li (own_below OWN.out hb3)
     have BEL := Li (BEL.out.trans (hb3.mono BEL.out.size))
     have EB := Li (EB.out.below hb3 EB.out.lt)
     obtain ⟨a3, c3, hv3, _⟩ := hr3.len
     rw [List.length_map] at hv3
     subst hv3
     have RF := Li hr3
     clear hr3 hb3
     have STEP1 : Hid (∀ w2 : World, w3.grownBy w2 (u3).ownBlock → Below w.heap.size w w2 ∧ Blk w2 wr.heap.size 42 [.int .i64 kd, .int .i64 op, .string tx, .slice na nm.length nc, .slice sa ca.length sc, .slice pa cb.length pc, .slice ba cc.length bc, .slice ea cd.length ec]) := Li (fun w2 h =>
       ⟨below_grown BEL.out OWN.out h BEL.out.size, EB.out.far_own OWN.out (by decide) h⟩)
     go_wp2_with (at_builtin; refine wpList_append_to _ rfl (.tmp 34) (.tmp 37) 30 rfl w.heap.size 9 iS _ 16 Tryz.underlying30 hiS hzS hsS hbS rfl (u3) (N + ((nmPs cb).map Value.string).length + ((nmEs ca).map Value.string).length + ((nmSs cc).map Value.string).length) _ rfl OWN.out _ _ _ rfl RF.out.sl (one_str _) (by simp only [List.length_map, List.length_singleton]; unfold maxLen; omega) (by simp only [List.length_map, List.length_singleton]; omega) BEL.out.size ?_; intro v7 w7 g1 g2 _; have OWN := Li g1; obtain ⟨hbw2, he2⟩ := STEP1.out w7 g2; have BEL := Li hbw2; have EB := Li he2; have d0 := he2.cell 0 (by simp); have le7 := he2.lt; clear g1 g2 hbw2 he2 RF STEP1)
     have FIN := Li (FINR.out _ _ (by exact own_cast OWN.out (by rw [HET.out, nmS_mk, if_neg HK.out]; simp <;> omega) (by rw [HET.out, nmS_mk, if_neg HK.out]; simp)) BEL.out)
     clear OWN BEL EB
     go_roundw
     case rel => first | exact FIN.out | ((repeat apply Exists.intro); exact ⟨FIN.out, rfl⟩)
     case measure => simp [intOf]; omega
   · obtain rfl : k = l.length := by omega
     have FIN := Li (NmRel.fin HOWN.out HBL.out)
     clear HOWN HBL
     go_wp2_with fail
     go_ret
     exact FIN.out
theorem stmtNames_upto (R : Nat → Nat → Option Value) (B n : Nat) : NmSt R B n := by
 induction n with
 | zero =>
   intro l a c w hsz _ _ _ _
   obtain rfl := nil_of_small hsz
   exact stmts_none a c w
 | succ n ih => exact stmts_step R B n ih
theorem walkNames_any (R : Nat → Nat → Option Value) (B : Nat) (l : List Tr) (a : Option Addr) (c : Nat) (w : World) (hl : StL R l (.slice a l.length c)) (ho : Old R B w) (hB : B ≤ w.heap.size) (h : (nmSs l).length ≤ 4096) :
   Calls Tryz.prog 9 #[.slice a l.length c] w (NmPost (nmSs l) w) := stmtNames_upto R B (SizeOf.sizeOf l) l a c w (fun t ht => List.sizeOf_lt_of_mem ht) hl ho hB h
end Go.Proofs.YtoojgjhfmmohbaaGreat
