/- treeFitter.clauses, params: of what expr answers. treeFitter.params: of what expr answers. -/
import Derived.Test.YtoojgjhfmmohbaaGreatMFita
namespace Go.Proofs.YtoojgjhfmmohbaaGreat
open Go.RowKit
set_option linter.unusedVariables false
set_option linter.unusedSimpArgs false
set_option maxRecDepth 100000
def FRelC (bf : Nat) (lf : Int) (w : World) (l : List Tr) (i : Value) (wr : World) : Prop :=
 FRel bf lf w l OkC ctEs i wr ∧ Hid (i ≠ .int .i64 0 → ∀ t, l[0]? = some t → t.kd = 21)
theorem FRelC.first {l : List Tr} {k : Nat} {t : Tr} (h : Value.int .i64 (k : Int) ≠ .int .i64 0 → ∀ t, l[0]? = some t → t.kd = 21) (ht : l[k]? = some t) (h0 : k = 0 → t.kd = 21) : Value.int .i64 ((k : Int) + 1) ≠ .int .i64 0 → ∀ t, l[0]? = some t → t.kd = 21 := by
 intro _ u hu
 by_cases hk : k = 0
 · subst hk
   rw [ht] at hu
   injection hu with hu
   rw [← hu]; exact h0 rfl
 · exact h (by simp; omega) u hu
set_option maxHeartbeats 3200000 in
theorem clauses_of {R : Nat → Nat → Option Value} {B bf : Nat} {l : List Tr} (HE : ∀ t ∈ l, FEx R B bf t ∧ ∀ k ∈ t.a, FEx R B bf k) (a : Option Addr) (c : Nat) (deep lf : Int) (w : World) (hl : ExL R l (.slice a l.length c)) (ho : Old R B w) (hB : B ≤ w.heap.size) (hbf : B ≤ bf) (hb : Blk w bf 37 [.int .i64 lf]) (h0 : 0 ≤ lf) (h300 : lf ≤ 300) (hd : 0 ≤ deep) (hd2 : deep ≤ 25) :
   Calls Tryz.prog 33 #[.pointer (some ⟨bf, 0, none⟩), .slice a l.length c, .int .i64 deep] w (FPost bf lf w (fun n => (∀ t ∈ l, OkC t) ∧ (ctEs l : Int) ≤ n ∧ ∀ t, l[0]? = some t → t.kd = 21)) := by
 obtain ⟨a', c', e, hc, hm, hrow⟩ := hl.form
 simp only [Value.slice.injEq, true_and] at e
 obtain ⟨rfl, rfl⟩ := e
 unfold maxLen at hm
 have START : Hid (FRelC bf lf w l (.int .i64 0) w) := Li ⟨⟨0, lf, Nat.zero_le _, rfl, Li hb, Li (Up.refl _ _), h0, Int.le_refl _, Li ⟨by simp, by simp⟩⟩, Li (fun h => absurd rfl h)⟩
 have HEH := Li HE; have HO := Li ho; have HR := Li hrow
 clear HE hb hl ho hrow
 go_enter Tryz.func33, Tryz.ntmps33
 go_wp2_with fail
 go_loopw [12] (FRelC bf lf w l) (fun i _ => l.length - (intOf i).toNat)
 case atStart => exact START.out
 case round =>
   obtain ⟨⟨k, lk, hk, rfl, HBK, HUP, hk0, hkl, HOK⟩, HFST⟩ := hrel
   clear START
   by_cases hlt : k < l.length
   · obtain ⟨t, ht⟩ : ∃ t, l[k]? = some t := ⟨_, List.getElem?_eq_getElem hlt⟩
     have hwr : Old R B wr := HO.out.up HUP.out hbf hB
     obtain ⟨b, o, rfl, hx⟩ := HR.out (by intro h; rw [h] at hlt; simp at hlt)
     obtain ⟨kd, op, tx, v, nm, ca, cb, cc, cd, ma, mc, ka, kc, sa, sc, pa, pc, et, hxv, ⟨hvr, hxa, hpb, hkr, hor, htx⟩, hbB, c0, c1, c2, c3, c4, c5, c6, c7, c8, c9, c10⟩ := (hx k t ht).cells hwr
     have hsz : B ≤ wr.heap.size := Nat.le_trans hB HUP.out.size
     obtain ⟨W0, hW0⟩ : ∃ W0, W0 = wr.alloc (.cells #[.int .i64 kd, .int .i64 op, .string tx, .int .i64 v.kd, .bool v.nb, .slice ma v.ms.length mc, .int .u64 v.ub, .string v.tx, .slice ka v.kn kc, .slice sa ca.length sc, .slice pa cb.length pc] 75) := ⟨_, rfl⟩
     have hu0 : Up (some bf) wr W0 := by rw [hW0]; exact (Up.refl (some bf) wr).alloc _
     have E0 : Blk W0 wr.heap.size 75 [.int .i64 kd, .int .i64 op, .string tx, .int .i64 v.kd, .bool v.nb, .slice ma v.ms.length mc, .int .u64 v.ub, .string v.tx, .slice ka v.kn kc, .slice sa ca.length sc, .slice pa cb.length pc] := by rw [hW0]; exact Blk.new wr _ _
     have hW0s : W0.heap.size = wr.heap.size + 1 := by rw [hW0]; simp
     have hbl := HBK.out.lt
     have hK0 : Blk W0 bf 37 [.int .i64 lk] := by rw [hW0]; exact HBK.out.alloc _
     have hO0 : Old R B W0 := hwr.up hu0 hbf hsz
     have HC := Li ((HEH.out t (List.mem_of_getElem? ht)).1 _ deep lk W0 hxv hO0 (by omega) hbf hK0 hk0 (by omega) hd hd2)
     have HT := Li ht
     have HET := Li et
     have HXV := Li hxv
     have HKS := Li (HEH.out t (List.mem_of_getElem? ht)).2
     have hne : wr.heap.size ≠ bf := by omega
     have HTX := Li htx
     have HXA := Li hxa
     clear hxv hwr ht et hx hvr hxa hpb hkr hor htx HC
     have HU0 := Li hu0
     have HO0 := Li hO0
     have HK0 := Li hK0
     have HE0 := Li E0
     have HCL := Li (treeClean_any kd op v.kd v.ub tx v.tx v.nb ma ka sa pa v.ms.length mc v.kn kc ca.length sc cb.length pc W0)
     subst hW0
     clear hu0 E0 hK0 hO0
     by_cases h21 : kd = 21
     · subst h21
       go_wp2_with fail
       refine HCL.out.mono ?_
       rintro e w1 ⟨y, rfl, hcl, hb1⟩
       have hE1 := HE0.out.below hb1 (by simp)
       have HK1 := Li (HK0.out.below hb1 (by simp; omega))
       have HU1 := Li (HU0.out.trans (Up.of_below hb1))
       have d9 := hE1.cell 9 (by simp)
       have HE1 := Li hE1
       have HCN := Li hcl
       clear hE1 hb1 HCL hcl
       cases y with
       | false =>
         have FIN : Hid (FPost bf lf w (fun n => (∀ t ∈ l, OkC t) ∧ (ctEs l : Int) ≤ n ∧ ∀ t, l[0]? = some t → t.kd = 21) (.returned (.bool false)) w1) := Li (FPost.no HUP.out hkl HK1.out HU1.out (by omega) (Int.le_refl _))
         clear HK1 HU1 HE1
         go_wp2_with fail
         go_ret
         exact FIN.out
       | true =>
         have hcb : cb = [] := by rcases HCN.out rfl with h | h <;> first | omega | exact len0 h
         by_cases hn : ca.length = 2
         · have TK := Li (takes_any bf lk deep w1 HK1.out hk0 (by omega) hd (by omega))
           have HCB := Li hcb
           have HN := Li hn
           have hn' : (ca.length : Int) = 2 := by omega
           clear hcb
           go_wp2_with fail
           refine TK.out.mono ?_
           rintro e w2 ⟨y, l2, rfl, hb2, hu2, hl1, hl2, hok2⟩
           have HK2 := Li hb2
           have HU2 := Li (HU1.out.trans hu2)
           have hE2 := HE1.out.up hu2 (by simp only [ne_eq, Option.some.injEq]; exact hne)
           have hO2 : Old R B w2 := HO.out.up (HUP.out.trans HU2.out) hbf hB
           have d9 := hE2.cell 9 (by simp)
           have HO2 := Li hO2
           have hw2 : B ≤ w2.heap.size := Nat.le_trans hB (HUP.out.trans HU2.out).size
           clear hE2 hO2 hb2 hu2 TK HE1 HK1 HU1 hn hn'
           cases y with
           | false =>
             have FIN : Hid (FPost bf lf w (fun n => (∀ t ∈ l, OkC t) ∧ (ctEs l : Int) ≤ n ∧ ∀ t, l[0]? = some t → t.kd = 21) (.returned (.bool false)) w2) := Li (FPost.no HUP.out hkl HK2.out HU2.out hl1 hl2)
             clear HK2 HU2 hok2
             go_wp2_with fail
             go_ret
             exact FIN.out
           | true =>
             obtain ⟨h02, hdp, h12⟩ := hok2 rfl
             have HC := Li (all_of (l := ca) (fun x hx => HKS.out x (by rw [HET.out]; exact hx)) sa sc (deep + 1) l2 w2 HXA.out HO2.out hw2 hbf HK2.out h02 (by omega) (by omega) (by omega))
             clear hok2
             go_wp2_with fail
             refine HC.out.mono ?_
             rintro e w3 ⟨y, l3, rfl, hb3, hu3, hl31, hl32, hok3⟩
             cases y with
             | false =>
               have FIN : Hid (FPost bf lf w (fun n => (∀ t ∈ l, OkC t) ∧ (ctEs l : Int) ≤ n ∧ ∀ t, l[0]? = some t → t.kd = 21) (.returned (.bool false)) w3) := Li (FPost.no HUP.out hkl hb3 (HU2.out.trans hu3) hl31 (by omega))
               clear HK2 HU2 hb3 hu3 hok3 HC
               go_wp2_with fail
               go_ret
               exact FIN.out
             | true =>
               obtain ⟨h03, hP3, hC3⟩ := hok3 rfl
               have FIN : Hid (FRelC bf lf w l (.int .i64 ((k : Int) + 1)) w3) := Li ⟨FRel.step HT.out HUP.out hkl HOK.out hb3 (HU2.out.trans hu3) h03 (by omega) (by obtain ⟨x, y, e⟩ := len2 HN.out; rw [HET.out, HCB.out, e]; rw [e] at hP3; exact .each _ _ _ _ _ _ _ _ (hP3 x (by simp)) (hP3 y (by simp))) (by rw [ctEs_append, HET.out, HCB.out]; simp only [ctEs_cons, ctEs_nil, ctE_mk, ctPs_nil]; simp; omega), Li (FRelC.first HFST.out HT.out (fun _ => by rw [HET.out]; rfl))⟩
               clear hb3 hu3 hok3 HC hP3 hC3
               go_wp2_with fail
               go_roundw
               case rel => first | exact FIN.out | ((repeat apply Exists.intro); exact ⟨FIN.out, rfl⟩)
               case measure => simp [intOf]; omega
         · have FIN : Hid (FPost bf lf w (fun n => (∀ t ∈ l, OkC t) ∧ (ctEs l : Int) ≤ n ∧ ∀ t, l[0]? = some t → t.kd = 21) (.returned (.bool false)) w1) := Li (FPost.no HUP.out hkl HK1.out HU1.out (by omega) (Int.le_refl _))
           have hn' : ¬ (ca.length : Int) = 2 := by omega
           have hn2 : ((ca.length : Int) != 2) = true := by simp; omega
           clear HK1 HU1 HE1 hcb
           go_wp2_with fail
           go_ret
           exact FIN.out
     · by_cases h22 : kd = 22 ∧ 0 < k
       · obtain ⟨rfl, hkp⟩ := h22
         have hkz : ((k : Int) == 0) = false := by rw [beq_eq_false_iff_ne]; omega
         go_wp2_with fail
         refine HCL.out.mono ?_
         rintro e w1 ⟨y, rfl, hcl, hb1⟩
         have hE1 := HE0.out.below hb1 (by simp)
         have HK1 := Li (HK0.out.below hb1 (by simp; omega))
         have HU1 := Li (HU0.out.trans (Up.of_below hb1))
         have d9 := hE1.cell 9 (by simp)
         have HE1 := Li hE1
         have HCN := Li hcl
         clear hE1 hb1 HCL hcl
         cases y with
         | false =>
           have FIN : Hid (FPost bf lf w (fun n => (∀ t ∈ l, OkC t) ∧ (ctEs l : Int) ≤ n ∧ ∀ t, l[0]? = some t → t.kd = 21) (.returned (.bool false)) w1) := Li (FPost.no HUP.out hkl HK1.out HU1.out (by omega) (Int.le_refl _))
           clear HK1 HU1 HE1
           go_wp2_with fail
           go_ret
           exact FIN.out
         | true =>
           have hcb : cb = [] := by rcases HCN.out rfl with h | h <;> first | omega | exact len0 h
           by_cases hn : ca.length = 1
           · have TK := Li (takes_any bf lk deep w1 HK1.out hk0 (by omega) hd (by omega))
             have HCB := Li hcb
             have HN := Li hn
             have hn' : (ca.length : Int) = 1 := by omega
             clear hcb
             go_wp2_with fail
             refine TK.out.mono ?_
             rintro e w2 ⟨y, l2, rfl, hb2, hu2, hl1, hl2, hok2⟩
             have HK2 := Li hb2
             have HU2 := Li (HU1.out.trans hu2)
             have hE2 := HE1.out.up hu2 (by simp only [ne_eq, Option.some.injEq]; exact hne)
             have hO2 : Old R B w2 := HO.out.up (HUP.out.trans HU2.out) hbf hB
             have d9 := hE2.cell 9 (by simp)
             have HO2 := Li hO2
             have hw2 : B ≤ w2.heap.size := Nat.le_trans hB (HUP.out.trans HU2.out).size
             clear hE2 hO2 hb2 hu2 TK HE1 HK1 HU1 hn hn'
             cases y with
             | false =>
               have FIN : Hid (FPost bf lf w (fun n => (∀ t ∈ l, OkC t) ∧ (ctEs l : Int) ≤ n ∧ ∀ t, l[0]? = some t → t.kd = 21) (.returned (.bool false)) w2) := Li (FPost.no HUP.out hkl HK2.out HU2.out hl1 hl2)
               clear HK2 HU2 hok2
               go_wp2_with fail
               go_ret
               exact FIN.out
             | true =>
               obtain ⟨h02, hdp, h12⟩ := hok2 rfl
               have HC := Li (all_of (l := ca) (fun x hx => HKS.out x (by rw [HET.out]; exact hx)) sa sc (deep + 1) l2 w2 HXA.out HO2.out hw2 hbf HK2.out h02 (by omega) (by omega) (by omega))
               clear hok2
               go_wp2_with fail
               refine HC.out.mono ?_
               rintro e w3 ⟨y, l3, rfl, hb3, hu3, hl31, hl32, hok3⟩
               cases y with
               | false =>
                 have FIN : Hid (FPost bf lf w (fun n => (∀ t ∈ l, OkC t) ∧ (ctEs l : Int) ≤ n ∧ ∀ t, l[0]? = some t → t.kd = 21) (.returned (.bool false)) w3) := Li (FPost.no HUP.out hkl hb3 (HU2.out.trans hu3) hl31 (by omega))
                 clear HK2 HU2 hb3 hu3 hok3 HC
                 go_wp2_with fail
                 go_ret
                 exact FIN.out
               | true =>
                 obtain ⟨h03, hP3, hC3⟩ := hok3 rfl
                 have FIN : Hid (FRelC bf lf w l (.int .i64 ((k : Int) + 1)) w3) := Li ⟨FRel.step HT.out HUP.out hkl HOK.out hb3 (HU2.out.trans hu3) h03 (by omega) (by obtain ⟨x, e⟩ := len1 HN.out; rw [HET.out, HCB.out, e]; rw [e] at hP3; exact .when _ _ _ _ _ _ _ (hP3 x (by simp))) (by rw [ctEs_append, HET.out, HCB.out]; simp only [ctEs_cons, ctEs_nil, ctE_mk, ctPs_nil]; simp; omega), Li (FRelC.first HFST.out HT.out (fun h => by omega))⟩
                 clear hb3 hu3 hok3 HC hP3 hC3
                 go_wp2_with fail
                 go_roundw
                 case rel => first | exact FIN.out | ((repeat apply Exists.intro); exact ⟨FIN.out, rfl⟩)
                 case measure => simp [intOf]; omega
           · have FIN : Hid (FPost bf lf w (fun n => (∀ t ∈ l, OkC t) ∧ (ctEs l : Int) ≤ n ∧ ∀ t, l[0]? = some t → t.kd = 21) (.returned (.bool false)) w1) := Li (FPost.no HUP.out hkl HK1.out HU1.out (by omega) (Int.le_refl _))
             have hn' : ¬ (ca.length : Int) = 1 := by omega
             have hn2 : ((ca.length : Int) != 1) = true := by simp; omega
             clear HK1 HU1 HE1 hcb
             go_wp2_with fail
             go_ret
             exact FIN.out
       · have FIN : Hid (FPost bf lf w (fun n => (∀ t ∈ l, OkC t) ∧ (ctEs l : Int) ≤ n ∧ ∀ t, l[0]? = some t → t.kd = 21) (.returned (.bool false)) (wr.alloc (.cells #[.int .i64 kd, .int .i64 op, .string tx, .int .i64 v.kd, .bool v.nb, .slice ma v.ms.length mc, .int .u64 v.ub, .string v.tx, .slice ka v.kn kc, .slice sa ca.length sc, .slice pa cb.length pc] 75))) := Li (FPost.no HUP.out hkl HK0.out HU0.out (by omega) (Int.le_refl _))
         clear HK0 HU0 HE0 HCL
         by_cases h22' : kd = 22
         · have hkz : ((k : Int) == 0) = true := by simp; omega
           subst h22'
           clear h22
           go_wp2_with fail
           go_ret
           exact FIN.out
         · have hk22 : (kd != 22) = true := by simpa using h22'
           clear h22
           go_wp2_with fail
           go_ret
           exact FIN.out
   · obtain rfl : k = l.length := by omega
     have FIN : Hid (FPost bf lf w (fun n => (∀ t ∈ l, OkC t) ∧ (ctEs l : Int) ≤ n ∧ ∀ t, l[0]? = some t → t.kd = 21) (.returned (.bool true)) wr) := Li (FPost.yes HBK.out HUP.out hk0 hkl HOK.out (fun h1 h2 => ⟨h1, h2, fun t ht => HFST.out (by simp only [ne_eq, Value.int.injEq, true_and]; have := (List.getElem?_eq_some_iff.1 ht).1; omega) t ht⟩))
     clear HBK HUP HOK HFST
     go_wp2_with fail
     go_ret
     exact FIN.out
set_option maxHeartbeats 6400000 in
theorem params_of {R : Nat → Nat → Option Value} {B bf : Nat} {l : List Tr} (HE : ∀ t ∈ l, ∀ k ∈ t.a, FEx R B bf k) (a : Option Addr) (c : Nat) (deep lf : Int) (w : World) (hl : PaL R l (.slice a l.length c)) (ho : Old R B w) (hB : B ≤ w.heap.size) (hbf : B ≤ bf) (hb : Blk w bf 37 [.int .i64 lf]) (h0 : 0 ≤ lf) (h300 : lf ≤ 300) (hd : 0 ≤ deep) (hd2 : deep ≤ 25) :
   Calls Tryz.prog 22 #[.pointer (some ⟨bf, 0, none⟩), .slice a l.length c, .int .i64 deep] w (FPost bf lf w (fun n => (∀ t ∈ l, OkP t) ∧ (ctPs l : Int) ≤ n)) := by
 obtain ⟨a', c', e, hc, hm, hrow⟩ := hl.form
 simp only [Value.slice.injEq, true_and] at e
 obtain ⟨rfl, rfl⟩ := e
 unfold maxLen at hm
 have START : Hid (FRel bf lf w l OkP ctPs (.int .i64 0) w) := Li ⟨0, lf, Nat.zero_le _, rfl, Li hb, Li (Up.refl _ _), h0, Int.le_refl _, Li ⟨by simp, by simp⟩⟩
 have HEH := Li HE; have HO := Li ho; have HR := Li hrow
 clear HE hb hl ho hrow
 go_enter Tryz.func22, Tryz.ntmps22
 go_wp2_with fail
 go_loopw [13] (FRel bf lf w l OkP ctPs) (fun i _ => l.length - (intOf i).toNat)
 case atStart => exact START.out
 case round =>
   obtain ⟨k, lk, hk, rfl, HBK, HUP, hk0, hkl, HOK⟩ := hrel
   clear START
   by_cases hlt : k < l.length
   · obtain ⟨t, ht⟩ : ∃ t, l[k]? = some t := ⟨_, List.getElem?_eq_getElem hlt⟩
     have hwr : Old R B wr := HO.out.up HUP.out hbf hB
     obtain ⟨b, o, rfl, hx⟩ := HR.out (by intro h; rw [h] at hlt; simp at hlt)
     obtain ⟨kd, op, tx, v, nm, ca, cb, cc, cd, sa, sc, et, hxv, ⟨hxa, hkr, htx⟩, hbB, c0, c1, c2⟩ := (hx k t ht).cells hwr
     have hsz : B ≤ wr.heap.size := Nat.le_trans hB HUP.out.size
     obtain ⟨W0, hW0⟩ : ∃ W0, W0 = wr.alloc (.cells #[.int .i64 kd, .string tx, .slice sa ca.length sc] 68) := ⟨_, rfl⟩
     have hu0 : Up (some bf) wr W0 := by rw [hW0]; exact (Up.refl (some bf) wr).alloc _
     have E0 : Blk W0 wr.heap.size 68 [.int .i64 kd, .string tx, .slice sa ca.length sc] := by rw [hW0]; exact Blk.new wr _ _
     have hW0s : W0.heap.size = wr.heap.size + 1 := by rw [hW0]; simp
     have hbl := HBK.out.lt
     have hK0 : Blk W0 bf 37 [.int .i64 lk] := by rw [hW0]; exact HBK.out.alloc _
     have hO0 : Old R B W0 := hwr.up hu0 hbf hsz
     have HT := Li ht
     have HET := Li et
     have HTX := Li htx
     have HXA := Li hxa
     have HKS := Li (HEH.out t (List.mem_of_getElem? ht))
     have hne : wr.heap.size ≠ bf := by omega
     clear hxv hwr ht et hx hxa hkr htx
     have TK := Li (takes_any bf lk deep W0 hK0 hk0 (by omega) hd (by omega))
     have HU0 := Li hu0
     have HK0 := Li hK0
     have HE0 := Li E0
     subst hW0
     clear hu0 E0 hK0 hO0
     by_cases h0' : kd = 0
     · subst h0'
       go_wp2_with fail
       refine TK.out.mono ?_
       rintro e w2 ⟨y, l2, rfl, hb2, hu2, hl1, hl2, hok2⟩
       have HK2 := Li hb2
       have HU2 := Li (HU0.out.trans hu2)
       have hE2 := HE0.out.up hu2 (by simp only [ne_eq, Option.some.injEq]; exact hne)
       have hO2 : Old R B w2 := HO.out.up (HUP.out.trans HU2.out) hbf hB
       have d0 := hE2.cell 0 (by simp)
       have d1 := hE2.cell 1 (by simp)
       have d2 := hE2.cell 2 (by simp)
       have HO2 := Li hO2
       have hw2 : B ≤ w2.heap.size := Nat.le_trans hB (HUP.out.trans HU2.out).size
       clear hE2 hO2 hb2 hu2 TK HE0 HK0 HU0
       cases y with
       | false =>
         have FIN : Hid (FPost bf lf w (fun n => (∀ t ∈ l, OkP t) ∧ (ctPs l : Int) ≤ n) (.returned (.bool false)) w2) := Li (FPost.no HUP.out hkl HK2.out HU2.out hl1 hl2)
         clear HK2 HU2 hok2
         go_wp2_with fail
         go_ret
         exact FIN.out
       | true =>
         obtain ⟨h02, hdp, h12⟩ := hok2 rfl
         clear hok2
         by_cases hn : ca.length = 0
         · have HC := Li (all_of (l := ca) (fun x hx => HKS.out x (by rw [HET.out]; exact hx)) sa sc (deep + 1) l2 w2 HXA.out HO2.out hw2 hbf HK2.out h02 (by omega) (by omega) (by omega))
           have HN := Li hn
           have hn1 : ((ca.length : Int) != 0) = false := by rw [bne_eq_false_iff_eq]; omega
           clear hn
           go_wp2_with (go_at_call 21; refine (isName_any _ _ HTX.out).mono ?_; rintro e w' ⟨y, rfl, rfl⟩; cases y)
           all_goals first | (have FIN : Hid (FPost bf lf w (fun n => (∀ t ∈ l, OkP t) ∧ (ctPs l : Int) ≤ n) (.returned (.bool false)) w2) := Li (FPost.no HUP.out hkl HK2.out HU2.out hl1 hl2); go_ret; exact FIN.out) | skip
           all_goals
             refine HC.out.mono ?_
             rintro e w3 ⟨y, l3, rfl, hb3, hu3, hl31, hl32, hok3⟩
             cases y with
             | false =>
               have FIN : Hid (FPost bf lf w (fun n => (∀ t ∈ l, OkP t) ∧ (ctPs l : Int) ≤ n) (.returned (.bool false)) w3) := Li (FPost.no HUP.out hkl hb3 (HU2.out.trans hu3) hl31 (by omega))
               clear HK2 HU2 hb3 hu3 hok3 HC
               go_wp2_with fail
               go_ret
               exact FIN.out
             | true =>
               obtain ⟨h03, hP3, hC3⟩ := hok3 rfl
               have FIN : Hid (FRel bf lf w l OkP ctPs (.int .i64 ((k : Int) + 1)) w3) := Li (FRel.step HT.out HUP.out hkl HOK.out hb3 (HU2.out.trans hu3) h03 (by omega) (by rw [HET.out, len0 HN.out]; exact .bare _ _ _ _ _ _ _ _ (by omega)) (by rw [ctPs_append, HET.out]; simp only [ctPs_cons, ctPs_nil, ctP_mk]; omega))
               clear hb3 hu3 hok3 HC hP3 hC3
               go_wp2_with fail
               go_roundw
               case rel => first | exact FIN.out | ((repeat apply Exists.intro); exact ⟨FIN.out, rfl⟩)
               case measure => simp [intOf]; omega
         · have FIN : Hid (FPost bf lf w (fun n => (∀ t ∈ l, OkP t) ∧ (ctPs l : Int) ≤ n) (.returned (.bool false)) w2) := Li (FPost.no HUP.out hkl HK2.out HU2.out hl1 hl2)
           have hn1 : ((ca.length : Int) != 0) = true := by rw [bne_iff_ne]; omega
           clear HK2 HU2
           go_wp2_with fail
           go_ret
           exact FIN.out
     by_cases h1' : kd = 1
     · subst h1'
       clear h0'
       go_wp2_with fail
       refine TK.out.mono ?_
       rintro e w2 ⟨y, l2, rfl, hb2, hu2, hl1, hl2, hok2⟩
       have HK2 := Li hb2
       have HU2 := Li (HU0.out.trans hu2)
       have hE2 := HE0.out.up hu2 (by simp only [ne_eq, Option.some.injEq]; exact hne)
       have hO2 : Old R B w2 := HO.out.up (HUP.out.trans HU2.out) hbf hB
       have d0 := hE2.cell 0 (by simp)
       have d1 := hE2.cell 1 (by simp)
       have d2 := hE2.cell 2 (by simp)
       have HO2 := Li hO2
       have hw2 : B ≤ w2.heap.size := Nat.le_trans hB (HUP.out.trans HU2.out).size
       clear hE2 hO2 hb2 hu2 TK HE0 HK0 HU0
       cases y with
       | false =>
         have FIN : Hid (FPost bf lf w (fun n => (∀ t ∈ l, OkP t) ∧ (ctPs l : Int) ≤ n) (.returned (.bool false)) w2) := Li (FPost.no HUP.out hkl HK2.out HU2.out hl1 hl2)
         clear HK2 HU2 hok2
         go_wp2_with fail
         go_ret
         exact FIN.out
       | true =>
         obtain ⟨h02, hdp, h12⟩ := hok2 rfl
         clear hok2
         by_cases hn : ca.length = 1
         · have HC := Li (all_of (l := ca) (fun x hx => HKS.out x (by rw [HET.out]; exact hx)) sa sc (deep + 1) l2 w2 HXA.out HO2.out hw2 hbf HK2.out h02 (by omega) (by omega) (by omega))
           have HN := Li hn
           have hn1 : ((ca.length : Int) != 1) = false := by rw [bne_eq_false_iff_eq]; omega
           clear hn
           go_wp2_with (go_at_call 21; refine (isName_any _ _ HTX.out).mono ?_; rintro e w' ⟨y, rfl, rfl⟩; cases y)
           all_goals first | (have FIN : Hid (FPost bf lf w (fun n => (∀ t ∈ l, OkP t) ∧ (ctPs l : Int) ≤ n) (.returned (.bool false)) w2) := Li (FPost.no HUP.out hkl HK2.out HU2.out hl1 hl2); go_ret; exact FIN.out) | skip
           all_goals
             refine HC.out.mono ?_
             rintro e w3 ⟨y, l3, rfl, hb3, hu3, hl31, hl32, hok3⟩
             cases y with
             | false =>
               have FIN : Hid (FPost bf lf w (fun n => (∀ t ∈ l, OkP t) ∧ (ctPs l : Int) ≤ n) (.returned (.bool false)) w3) := Li (FPost.no HUP.out hkl hb3 (HU2.out.trans hu3) hl31 (by omega))
               clear HK2 HU2 hb3 hu3 hok3 HC
               go_wp2_with fail
               go_ret
               exact FIN.out
             | true =>
               obtain ⟨h03, hP3, hC3⟩ := hok3 rfl
               have FIN : Hid (FRel bf lf w l OkP ctPs (.int .i64 ((k : Int) + 1)) w3) := Li (FRel.step HT.out HUP.out hkl HOK.out hb3 (HU2.out.trans hu3) h03 (by omega) (by obtain ⟨x, e⟩ := len1 HN.out; rw [HET.out, e]; rw [e] at hP3; exact .dflt _ _ _ _ _ _ _ _ (hP3 x (by simp))) (by rw [ctPs_append, HET.out]; simp only [ctPs_cons, ctPs_nil, ctP_mk]; omega))
               clear hb3 hu3 hok3 HC hP3 hC3
               go_wp2_with fail
               go_roundw
               case rel => first | exact FIN.out | ((repeat apply Exists.intro); exact ⟨FIN.out, rfl⟩)
               case measure => simp [intOf]; omega
         · have FIN : Hid (FPost bf lf w (fun n => (∀ t ∈ l, OkP t) ∧ (ctPs l : Int) ≤ n) (.returned (.bool false)) w2) := Li (FPost.no HUP.out hkl HK2.out HU2.out hl1 hl2)
           have hn1 : ((ca.length : Int) != 1) = true := by rw [bne_iff_ne]; omega
           clear HK2 HU2
           go_wp2_with fail
           go_ret
           exact FIN.out
     by_cases h2' : kd = 2
     · subst h2'
       clear h0' h1'
       go_wp2_with fail
       refine TK.out.mono ?_
       rintro e w2 ⟨y, l2, rfl, hb2, hu2, hl1, hl2, hok2⟩
       have HK2 := Li hb2
       have HU2 := Li (HU0.out.trans hu2)
       have hE2 := HE0.out.up hu2 (by simp only [ne_eq, Option.some.injEq]; exact hne)
       have hO2 : Old R B w2 := HO.out.up (HUP.out.trans HU2.out) hbf hB
       have d0 := hE2.cell 0 (by simp)
       have d1 := hE2.cell 1 (by simp)
       have d2 := hE2.cell 2 (by simp)
       have HO2 := Li hO2
       have hw2 : B ≤ w2.heap.size := Nat.le_trans hB (HUP.out.trans HU2.out).size
       clear hE2 hO2 hb2 hu2 TK HE0 HK0 HU0
       cases y with
       | false =>
         have FIN : Hid (FPost bf lf w (fun n => (∀ t ∈ l, OkP t) ∧ (ctPs l : Int) ≤ n) (.returned (.bool false)) w2) := Li (FPost.no HUP.out hkl HK2.out HU2.out hl1 hl2)
         clear HK2 HU2 hok2
         go_wp2_with fail
         go_ret
         exact FIN.out
       | true =>
         obtain ⟨h02, hdp, h12⟩ := hok2 rfl
         clear hok2
         by_cases hn : ca.length = 0
         · have HC := Li (all_of (l := ca) (fun x hx => HKS.out x (by rw [HET.out]; exact hx)) sa sc (deep + 1) l2 w2 HXA.out HO2.out hw2 hbf HK2.out h02 (by omega) (by omega) (by omega))
           have HN := Li hn
           have hn1 : ((ca.length : Int) != 0) = false := by rw [bne_eq_false_iff_eq]; omega
           clear hn
           go_wp2_with (go_at_call 21; refine (isName_any _ _ HTX.out).mono ?_; rintro e w' ⟨y, rfl, rfl⟩; cases y)
           all_goals first | (have FIN : Hid (FPost bf lf w (fun n => (∀ t ∈ l, OkP t) ∧ (ctPs l : Int) ≤ n) (.returned (.bool false)) w2) := Li (FPost.no HUP.out hkl HK2.out HU2.out hl1 hl2); go_ret; exact FIN.out) | skip
           all_goals
             refine HC.out.mono ?_
             rintro e w3 ⟨y, l3, rfl, hb3, hu3, hl31, hl32, hok3⟩
             cases y with
             | false =>
               have FIN : Hid (FPost bf lf w (fun n => (∀ t ∈ l, OkP t) ∧ (ctPs l : Int) ≤ n) (.returned (.bool false)) w3) := Li (FPost.no HUP.out hkl hb3 (HU2.out.trans hu3) hl31 (by omega))
               clear HK2 HU2 hb3 hu3 hok3 HC
               go_wp2_with fail
               go_ret
               exact FIN.out
             | true =>
               obtain ⟨h03, hP3, hC3⟩ := hok3 rfl
               have FIN : Hid (FRel bf lf w l OkP ctPs (.int .i64 ((k : Int) + 1)) w3) := Li (FRel.step HT.out HUP.out hkl HOK.out hb3 (HU2.out.trans hu3) h03 (by omega) (by rw [HET.out, len0 HN.out]; exact .bare _ _ _ _ _ _ _ _ (by omega)) (by rw [ctPs_append, HET.out]; simp only [ctPs_cons, ctPs_nil, ctP_mk]; omega))
               clear hb3 hu3 hok3 HC hP3 hC3
               go_wp2_with fail
               go_roundw
               case rel => first | exact FIN.out | ((repeat apply Exists.intro); exact ⟨FIN.out, rfl⟩)
               case measure => simp [intOf]; omega
         · have FIN : Hid (FPost bf lf w (fun n => (∀ t ∈ l, OkP t) ∧ (ctPs l : Int) ≤ n) (.returned (.bool false)) w2) := Li (FPost.no HUP.out hkl HK2.out HU2.out hl1 hl2)
           have hn1 : ((ca.length : Int) != 0) = true := by rw [bne_iff_ne]; omega
           clear HK2 HU2
           go_wp2_with fail
           go_ret
           exact FIN.out
     by_cases h4' : kd = 4
     · subst h4'
       clear h0' h1' h2'
       go_wp2_with fail
       refine TK.out.mono ?_
       rintro e w2 ⟨y, l2, rfl, hb2, hu2, hl1, hl2, hok2⟩
       have HK2 := Li hb2
       have HU2 := Li (HU0.out.trans hu2)
       have hE2 := HE0.out.up hu2 (by simp only [ne_eq, Option.some.injEq]; exact hne)
       have hO2 : Old R B w2 := HO.out.up (HUP.out.trans HU2.out) hbf hB
       have d0 := hE2.cell 0 (by simp)
       have d1 := hE2.cell 1 (by simp)
       have d2 := hE2.cell 2 (by simp)
       have HO2 := Li hO2
       have hw2 : B ≤ w2.heap.size := Nat.le_trans hB (HUP.out.trans HU2.out).size
       clear hE2 hO2 hb2 hu2 TK HE0 HK0 HU0
       cases y with
       | false =>
         have FIN : Hid (FPost bf lf w (fun n => (∀ t ∈ l, OkP t) ∧ (ctPs l : Int) ≤ n) (.returned (.bool false)) w2) := Li (FPost.no HUP.out hkl HK2.out HU2.out hl1 hl2)
         clear HK2 HU2 hok2
         go_wp2_with fail
         go_ret
         exact FIN.out
       | true =>
         obtain ⟨h02, hdp, h12⟩ := hok2 rfl
         clear hok2
         by_cases hn : ca.length = 0
         · have HC := Li (all_of (l := ca) (fun x hx => HKS.out x (by rw [HET.out]; exact hx)) sa sc (deep + 1) l2 w2 HXA.out HO2.out hw2 hbf HK2.out h02 (by omega) (by omega) (by omega))
           have HN := Li hn
           have hn1 : ((ca.length : Int) != 0) = false := by rw [bne_eq_false_iff_eq]; omega
           clear hn
           go_wp2_with (go_at_call 21; refine (isName_any _ _ HTX.out).mono ?_; rintro e w' ⟨y, rfl, rfl⟩; cases y)
           all_goals first | (have FIN : Hid (FPost bf lf w (fun n => (∀ t ∈ l, OkP t) ∧ (ctPs l : Int) ≤ n) (.returned (.bool false)) w2) := Li (FPost.no HUP.out hkl HK2.out HU2.out hl1 hl2); go_ret; exact FIN.out) | skip
           all_goals
             refine HC.out.mono ?_
             rintro e w3 ⟨y, l3, rfl, hb3, hu3, hl31, hl32, hok3⟩
             cases y with
             | false =>
               have FIN : Hid (FPost bf lf w (fun n => (∀ t ∈ l, OkP t) ∧ (ctPs l : Int) ≤ n) (.returned (.bool false)) w3) := Li (FPost.no HUP.out hkl hb3 (HU2.out.trans hu3) hl31 (by omega))
               clear HK2 HU2 hb3 hu3 hok3 HC
               go_wp2_with fail
               go_ret
               exact FIN.out
             | true =>
               obtain ⟨h03, hP3, hC3⟩ := hok3 rfl
               have FIN : Hid (FRel bf lf w l OkP ctPs (.int .i64 ((k : Int) + 1)) w3) := Li (FRel.step HT.out HUP.out hkl HOK.out hb3 (HU2.out.trans hu3) h03 (by omega) (by rw [HET.out, len0 HN.out]; exact .bare _ _ _ _ _ _ _ _ (by omega)) (by rw [ctPs_append, HET.out]; simp only [ctPs_cons, ctPs_nil, ctP_mk]; omega))
               clear hb3 hu3 hok3 HC hP3 hC3
               go_wp2_with fail
               go_roundw
               case rel => first | exact FIN.out | ((repeat apply Exists.intro); exact ⟨FIN.out, rfl⟩)
               case measure => simp [intOf]; omega
         · have FIN : Hid (FPost bf lf w (fun n => (∀ t ∈ l, OkP t) ∧ (ctPs l : Int) ≤ n) (.returned (.bool false)) w2) := Li (FPost.no HUP.out hkl HK2.out HU2.out hl1 hl2)
           have hn1 : ((ca.length : Int) != 0) = true := by rw [bne_iff_ne]; omega
           clear HK2 HU2
           go_wp2_with fail
           go_ret
           exact FIN.out
     by_cases h3' : kd = 3
     · subst h3'
       clear h0' h1' h2' h4'
       go_wp2_with fail
       refine TK.out.mono ?_
       rintro e w2 ⟨y, l2, rfl, hb2, hu2, hl1, hl2, hok2⟩
       have HK2 := Li hb2
       have HU2 := Li (HU0.out.trans hu2)
       have hE2 := HE0.out.up hu2 (by simp only [ne_eq, Option.some.injEq]; exact hne)
       have hO2 : Old R B w2 := HO.out.up (HUP.out.trans HU2.out) hbf hB
       have d0 := hE2.cell 0 (by simp)
       have d1 := hE2.cell 1 (by simp)
       have d2 := hE2.cell 2 (by simp)
       have HO2 := Li hO2
       have hw2 : B ≤ w2.heap.size := Nat.le_trans hB (HUP.out.trans HU2.out).size
       clear hE2 hO2 hb2 hu2 TK HE0 HK0 HU0
       cases y with
       | false =>
         have FIN : Hid (FPost bf lf w (fun n => (∀ t ∈ l, OkP t) ∧ (ctPs l : Int) ≤ n) (.returned (.bool false)) w2) := Li (FPost.no HUP.out hkl HK2.out HU2.out hl1 hl2)
         clear HK2 HU2 hok2
         go_wp2_with fail
         go_ret
         exact FIN.out
       | true =>
         obtain ⟨h02, hdp, h12⟩ := hok2 rfl
         clear hok2
         by_cases hn : ca.length = 0
         · have HC := Li (all_of (l := ca) (fun x hx => HKS.out x (by rw [HET.out]; exact hx)) sa sc (deep + 1) l2 w2 HXA.out HO2.out hw2 hbf HK2.out h02 (by omega) (by omega) (by omega))
           have HN := Li hn
           have hn1 : ((ca.length : Int) != 0) = false := by rw [bne_eq_false_iff_eq]; omega
           clear hn
           go_wp2_with (go_at_call 21; refine (isName_any _ _ HTX.out).mono ?_; rintro e w' ⟨y, rfl, rfl⟩; cases y)
           all_goals first | (have FIN : Hid (FPost bf lf w (fun n => (∀ t ∈ l, OkP t) ∧ (ctPs l : Int) ≤ n) (.returned (.bool false)) w2) := Li (FPost.no HUP.out hkl HK2.out HU2.out hl1 hl2); go_ret; exact FIN.out) | skip
           all_goals
             refine HC.out.mono ?_
             rintro e w3 ⟨y, l3, rfl, hb3, hu3, hl31, hl32, hok3⟩
             cases y with
             | false =>
               have FIN : Hid (FPost bf lf w (fun n => (∀ t ∈ l, OkP t) ∧ (ctPs l : Int) ≤ n) (.returned (.bool false)) w3) := Li (FPost.no HUP.out hkl hb3 (HU2.out.trans hu3) hl31 (by omega))
               clear HK2 HU2 hb3 hu3 hok3 HC
               go_wp2_with fail
               go_ret
               exact FIN.out
             | true =>
               obtain ⟨h03, hP3, hC3⟩ := hok3 rfl
               have FIN : Hid (FRel bf lf w l OkP ctPs (.int .i64 ((k : Int) + 1)) w3) := Li (FRel.step HT.out HUP.out hkl HOK.out hb3 (HU2.out.trans hu3) h03 (by omega) (by rw [HET.out, len0 HN.out]; exact .bare _ _ _ _ _ _ _ _ (by omega)) (by rw [ctPs_append, HET.out]; simp only [ctPs_cons, ctPs_nil, ctP_mk]; omega))
               clear hb3 hu3 hok3 HC hP3 hC3
               go_wp2_with fail
               go_roundw
               case rel => first | exact FIN.out | ((repeat apply Exists.intro); exact ⟨FIN.out, rfl⟩)
               case measure => simp [intOf]; omega
         · have FIN : Hid (FPost bf lf w (fun n => (∀ t ∈ l, OkP t) ∧ (ctPs l : Int) ≤ n) (.returned (.bool false)) w2) := Li (FPost.no HUP.out hkl HK2.out HU2.out hl1 hl2)
           have hn1 : ((ca.length : Int) != 0) = true := by rw [bne_iff_ne]; omega
           clear HK2 HU2
           go_wp2_with fail
           go_ret
           exact FIN.out
     have n3 := h3'
     go_wp2_with fail
     refine TK.out.mono ?_
     rintro e w2 ⟨y, l2, rfl, hb2, hu2, hl1, hl2, hok2⟩
     have HK2 := Li hb2
     have HU2 := Li (HU0.out.trans hu2)
     have hE2 := HE0.out.up hu2 (by simp only [ne_eq, Option.some.injEq]; exact hne)
     have hO2 : Old R B w2 := HO.out.up (HUP.out.trans HU2.out) hbf hB
     have d0 := hE2.cell 0 (by simp)
     have d1 := hE2.cell 1 (by simp)
     have d2 := hE2.cell 2 (by simp)
     have HO2 := Li hO2
     have hw2 : B ≤ w2.heap.size := Nat.le_trans hB (HUP.out.trans HU2.out).size
     clear hE2 hO2 hb2 hu2 TK HE0 HK0 HU0
     cases y with
     | false =>
       have FIN : Hid (FPost bf lf w (fun n => (∀ t ∈ l, OkP t) ∧ (ctPs l : Int) ≤ n) (.returned (.bool false)) w2) := Li (FPost.no HUP.out hkl HK2.out HU2.out hl1 hl2)
       clear HK2 HU2 hok2
       go_wp2_with fail
       go_ret
       exact FIN.out
     | true =>
       obtain ⟨h02, hdp, h12⟩ := hok2 rfl
       clear hok2
       have FIN : Hid (FPost bf lf w (fun n => (∀ t ∈ l, OkP t) ∧ (ctPs l : Int) ≤ n) (.returned (.bool false)) w2) := Li (FPost.no HUP.out hkl HK2.out HU2.out hl1 hl2)
       clear HK2 HU2
       have hk3 : (kd != 3) = true := by simpa using n3
       by_cases hn : (ca.length : Int) = 0
       · have hn1 : ((ca.length : Int) != 0) = false := by rw [bne_eq_false_iff_eq]; omega
         clear hn
         go_wp2_with fail
         go_ret
         exact FIN.out
       · have hn1 : ((ca.length : Int) != 0) = true := by rw [bne_iff_ne]; omega
         go_wp2_with fail
         go_ret
         exact FIN.out
   · obtain rfl : k = l.length := by omega
     have FIN : Hid (FPost bf lf w (fun n => (∀ t ∈ l, OkP t) ∧ (ctPs l : Int) ≤ n) (.returned (.bool true)) wr) := Li (FPost.yes HBK.out HUP.out hk0 hkl HOK.out (fun h1 h2 => ⟨h1, h2⟩))
     clear HBK HUP HOK
     go_wp2_with fail
     go_ret
     exact FIN.out
end Go.Proofs.YtoojgjhfmmohbaaGreat
