/- treeFitter.expr: it answers true only at an expression that a text could be; at calls, lambdas, comprehensions, slices (printed by genwkexpr2.py). treeFitter.expr: it answers true only at an expression that a text could be; at slices, and at what is no expression (printed by genwkexpr3.py). treeFitter.expr at any expression; what treeFitter.stmt is to answer. -/
import Derived.Test.YtoojgjhfmmohbaaGreatWkFit8
namespace Go.Proofs.YtoojgjhfmmohbaaGreat
open Go.RowKit
set_option linter.unusedVariables false
set_option linter.unusedSimpArgs false
set_option maxRecDepth 100000
theorem ExL.drop1 {R : Nat → Nat → Option Value} {x : Tr} {l : List Tr} {b o n c : Nat} (h : ExL R (x :: l) (.slice (some ⟨b, o, none⟩) n c)) (h1 : c ≠ 1) : ExL R l (.slice (some ⟨b, o + 11, none⟩) l.length (c - 1)) := by
 obtain ⟨a', c', e, hc, hm, hr⟩ := h.form
 simp only [Value.slice.injEq] at e
 obtain ⟨rfl, rfl, rfl⟩ := e
 obtain ⟨b', o', ha, hx⟩ := hr (by simp)
 simp only [Option.some.injEq, Addr.mk.injEq, and_true] at ha
 obtain ⟨rfl, rfl⟩ := ha
 simp only [List.length_cons] at hc
 exact .row l b (o + 11) (c - 1) (by omega) (by omega) (fun i t ht => by
   have := hx (i + 1) t (by simpa using ht)
   rwa [show o + 11 + i * 11 = o + (i + 1) * 11 by omega])
theorem ExL.take2 {R : Nat → Nat → Option Value} {x y : Tr} {l : List Tr} {a : Option Addr} {n c : Nat} (h : ExL R (x :: y :: l) (.slice a n c)) (h1 : 2 ≤ c) : ExL R [x, y] (.slice a [x, y].length c) := by
 obtain ⟨a', c', e, hc, hm, hr⟩ := h.form
 simp only [Value.slice.injEq] at e
 obtain ⟨rfl, rfl, rfl⟩ := e
 obtain ⟨b', o', rfl, hx⟩ := hr (by simp)
 exact .row [x, y] b' o' c (by simpa using h1) hm (fun i t ht => by
   match i, ht with
   | 0, ht => exact hx 0 t (by simpa using ht)
   | 1, ht => exact hx 1 t (by simpa using ht))
theorem ExL.at0 {R : Nat → Nat → Option Value} {x : Tr} {l : List Tr} {a : Option Addr} {n c : Nat} (h : ExL R (x :: l) (.slice a n c)) : ∃ b o, a = some ⟨b, o, none⟩ ∧ n = l.length + 1 ∧ l.length + 1 ≤ c ∧ c ≤ maxLen ∧ ExA R b o x := by
 obtain ⟨a', c', e, hc, hm, hr⟩ := h.form
 simp only [Value.slice.injEq] at e
 obtain ⟨rfl, rfl, rfl⟩ := e
 obtain ⟨b', o', ha, hx⟩ := hr (by simp)
 exact ⟨b', o', ha, rfl, hc, hm, by simpa using hx 0 x rfl⟩
set_option maxHeartbeats 6400000 in
theorem expr_k14 {R : Nat → Nat → Option Value} {B bf : Nat} (op : Int) (tx : ByteArray) (v : VV) (nm : List ByteArray) (a b c d : List Tr) (ma ka sa pa : Option Addr) (mc kc sc pc : Nat) (deep lf : Int) (w : World) (IH : ∀ s ∈ a, FEx R B bf s ∧ ∀ k ∈ s.a, FEx R B bf k) (IHP : ∀ p ∈ b, ∀ k ∈ p.a, FEx R B bf k)
   (hvr : VaR R v [.int .i64 v.kd, .bool v.nb, .slice ma v.ms.length mc, .int .u64 v.ub, .string v.tx, .slice ka v.kn kc]) (hxa : ExL R a (.slice sa a.length sc)) (hpb : PaL R b (.slice pa b.length pc)) (htx : tx.size ≤ maxLen) (ho : Old R B w) (hB : B ≤ w.heap.size) (hbf : B ≤ bf) (hb : Blk w bf 37 [.int .i64 lf]) (h0 : 0 ≤ lf) (h300 : lf ≤ 300) (hd : 0 ≤ deep) (hd2 : deep ≤ 25) :
   Calls Tryz.prog 26 #[.pointer (some ⟨bf, 0, none⟩), .agg #[.int .i64 14, .int .i64 op, .string tx, .int .i64 v.kd, .bool v.nb, .slice ma v.ms.length mc, .int .u64 v.ub, .string v.tx, .slice ka v.kn kc, .slice sa a.length sc, .slice pa b.length pc], .int .i64 deep] w (FPost bf lf w (fun n => OkE (.mk 14 op tx v nm a b c d) ∧ (ctE (.mk 14 op tx v nm a b c d) : Int) ≤ n)) := by
 obtain ⟨W0, hW0⟩ : ∃ W0, W0 = w.alloc (.cells #[.int .i64 14, .int .i64 op, .string tx, .int .i64 v.kd, .bool v.nb, .slice ma v.ms.length mc, .int .u64 v.ub, .string v.tx, .slice ka v.kn kc, .slice sa a.length sc, .slice pa b.length pc] 75) := ⟨_, rfl⟩
 have hu0 : Up (some bf) w W0 := by rw [hW0]; exact (Up.refl (some bf) w).alloc _
 have E0 : Blk W0 w.heap.size 75 [.int .i64 14, .int .i64 op, .string tx, .int .i64 v.kd, .bool v.nb, .slice ma v.ms.length mc, .int .u64 v.ub, .string v.tx, .slice ka v.kn kc, .slice sa a.length sc, .slice pa b.length pc] := by rw [hW0]; exact Blk.new w _ _
 have hbl := hb.lt
 have hK0 : Blk W0 bf 37 [.int .i64 lf] := by rw [hW0]; exact hb.alloc _
 have hW0s : W0.heap.size = w.heap.size + 1 := by rw [hW0]; simp
 have hO0 : Old R B W0 := ho.up hu0 hbf hB
 have hne : w.heap.size ≠ bf := by omega
 have TK := Li (takes_any bf lf deep W0 hK0 h0 h300 hd (by omega))
 have KK : Hid (∀ W, Calls Tryz.prog 29 #[.int .i64 14] W (fun e w' => e = .returned (.int .i64 (-1)) ∧ W = w')) := Li (fun W => by
   have h := treeKids_any 14 W
   have e : tkK 14 = (-1) := by decide
   rw [e] at h
   exact h)
 have HU0 := Li hu0; have HK0 := Li hK0; have HE0 := Li E0; have HO := Li ho
 have HIH := Li IH; have HIP := Li IHP; have HXA := Li hxa; have HPB := Li hpb; have HTX := Li htx; have HVR := Li hvr
 clear hu0 E0 hK0 hO0 hb ho IH IHP hxa hpb htx hvr
 have hm : a.length ≤ sc ∧ sc ≤ maxLen := by
   obtain ⟨_, _, e, h1, h2, _⟩ := HXA.out.form
   simp only [Value.slice.injEq, true_and] at e
   rw [e.2]; exact ⟨h1, h2⟩
 unfold maxLen at hm
 obtain ⟨hm1, hm2⟩ := hm
 subst hW0
 go_enter Tryz.func26, Tryz.ntmps26
 go_wp2_with (go_at_call 29; refine (KK.out _).mono ?_; rintro e w' ⟨rfl, rfl⟩)
 refine TK.out.mono ?_
 rintro e w1 ⟨y, l1, rfl, hb1, hu1, hl11, hl12, hok1⟩
 have HK1 := Li hb1
 have HU1 := Li (HU0.out.trans hu1)
 have hE1 := HE0.out.up hu1 (by simp only [ne_eq, Option.some.injEq]; exact hne)
 have f0 := hE1.cell 0 (by simp)
 have f1 := hE1.cell 1 (by simp)
 have f2 := hE1.cell 2 (by simp)
 have f3 := hE1.cell 3 (by simp)
 have f4 := hE1.cell 4 (by simp)
 have f5 := hE1.cell 5 (by simp)
 have f6 := hE1.cell 6 (by simp)
 have f7 := hE1.cell 7 (by simp)
 have f8 := hE1.cell 8 (by simp)
 have f9 := hE1.cell 9 (by simp)
 have f10 := hE1.cell 10 (by simp)
 have HE1 := Li hE1
 have hs1 : w.heap.size < w1.heap.size := hE1.lt
 clear hE1 hb1 hu1 TK HE0 HK0 HU0 KK
 cases y with
 | false =>
   have FIN : Hid ((FPost bf lf w (fun n => OkE (.mk 14 op tx v nm a b c d) ∧ (ctE (.mk 14 op tx v nm a b c d) : Int) ≤ n) (.returned (.bool false)) w1)) := Li ⟨false, l1, rfl, HK1.out, HU1.out, hl11, by omega, fun h => by simp at h⟩
   clear HK1 HU1 hok1 HE1
   go_wp2_with fail
   go_ret
   exact FIN.out
 | true =>
 obtain ⟨h01, hdp, h11⟩ := hok1 rfl
 have HCL := Li (treeClean_any 14 op v.kd v.ub tx v.tx v.nb ma ka sa pa v.ms.length mc v.kn kc a.length sc b.length pc w1)
 clear hok1
 go_wp2_with fail
 refine HCL.out.mono ?_
 rintro e w2 ⟨y, rfl, hcl, hb2⟩
 have HU2 := Li (HU1.out.trans (Up.of_below hb2))
 have HK2 := Li (HK1.out.below hb2 HK1.out.lt)
 have hE2 := HE1.out.below hb2 HE1.out.lt
 have HO2 := Li (HO.out.up HU2.out hbf hB)
 have hw2 : B ≤ w2.heap.size := Nat.le_trans hB HU2.out.size
 have d0 := hE2.cell 0 (by simp)
 have d1 := hE2.cell 1 (by simp)
 have d2 := hE2.cell 2 (by simp)
 have d3 := hE2.cell 3 (by simp)
 have d4 := hE2.cell 4 (by simp)
 have d5 := hE2.cell 5 (by simp)
 have d6 := hE2.cell 6 (by simp)
 have d7 := hE2.cell 7 (by simp)
 have d8 := hE2.cell 8 (by simp)
 have d9 := hE2.cell 9 (by simp)
 have d10 := hE2.cell 10 (by simp)
 have HE2 := Li hE2
 have hs2 : w.heap.size < w2.heap.size := hE2.lt
 have HCN := Li hcl
 clear hE2 hb2 HCL hcl HE1 HK1 HU1 f0 f1 f2 f3 f4 f5 f6 f7 f8 f9 f10
 cases y with
 | false =>
   have FIN : Hid ((FPost bf lf w (fun n => OkE (.mk 14 op tx v nm a b c d) ∧ (ctE (.mk 14 op tx v nm a b c d) : Int) ≤ n) (.returned (.bool false)) w2)) := Li ⟨false, l1, rfl, HK2.out, HU2.out, hl11, by omega, fun h => by simp at h⟩
   clear HK2 HU2 HE2
   go_wp2_with fail
   go_ret
   exact FIN.out
 | true =>
 have HCB : Hid (b = []) := Li (by rcases HCN.out rfl with h | h <;> first | omega | exact len0 h)
 by_cases hnil : a.length < 1
 · have FIN : Hid ((FPost bf lf w (fun n => OkE (.mk 14 op tx v nm a b c d) ∧ (ctE (.mk 14 op tx v nm a b c d) : Int) ≤ n) (.returned (.bool false)) w2)) := Li ⟨false, l1, rfl, HK2.out, HU2.out, by omega, by omega, fun h => by simp at h⟩
   have hz : decide (0 < a.length) = false := decide_eq_false (by omega)
   clear HK2 HU2 HE2
   go_wp2_with fail
   go_ret
   exact FIN.out
 obtain ⟨x, l, hal⟩ : ∃ x l, a = x :: l := List.exists_cons_of_ne_nil (by intro h; rw [h] at hnil; simp at hnil)
 obtain ⟨b3, o3, rfl, hn3, hc3, hm3, hx0⟩ := ExL.at0 (by have := HXA.out; rwa [hal] at this)
 obtain ⟨kd', op', tx', v', nm', ca', cb', cc', cd', ma', mc', ka', kc', sa', sc', pa', pc', et', hxv', hx', hbB', q0, q1, q2, q3, q4, q5, q6, q7, q8, q9, q10⟩ := hx0.cells HO2.out
 have HC := Li ((HIH.out x (by rw [hal]; simp)).1 _ (deep + 1) l1 w2 hxv' HO2.out hw2 hbf HK2.out h01 (by omega) (by omega) (by omega))
 have HAL := Li hal
 have hl1 : 1 ≤ a.length := by omega
 have hz : decide (0 < a.length) = true := decide_eq_true (by omega)
 clear et' hxv' hx' hx0 hal hn3 hnil hc3 hm3
 go_wp2_with fail
 refine HC.out.mono ?_
 rintro e w3 ⟨y, l3, rfl, hb3, hu3, hl31, hl32, hok3⟩
 have HU3 := Li (HU2.out.trans hu3)
 have hE3 := HE2.out.up hu3 (by simp only [ne_eq, Option.some.injEq]; exact hne)
 have g9 := hE3.cell 9 (by simp)
 have HO3 := Li (HO.out.up HU3.out hbf hB)
 have hw3 : B ≤ w3.heap.size := Nat.le_trans hB HU3.out.size
 clear hE3 hu3
 cases y with
 | false =>
   have FIN : Hid ((FPost bf lf w (fun n => OkE (.mk 14 op tx v nm a b c d) ∧ (ctE (.mk 14 op tx v nm a b c d) : Int) ≤ n) (.returned (.bool false)) w3)) := Li ⟨false, l3, rfl, hb3, HU3.out, by omega, by omega, fun h => by simp at h⟩
   clear hb3 hok3
   go_wp2_with fail
   go_ret
   exact FIN.out
 | true =>
 obtain ⟨h03, hP3, hC3⟩ := hok3 rfl
 have HA : Hid (∀ adr cc, ExL R l (.slice adr (a.length - 1) cc) → Calls Tryz.prog 32 #[.pointer (some ⟨bf, 0, none⟩), .slice adr (a.length - 1) cc, .int .i64 (deep + 1)] w3 (FPost bf l3 w3 (fun n => (∀ t ∈ l, OkG t) ∧ (ctEs l : Int) ≤ n))) := Li (fun adr cc hh => by
   have e : a.length - 1 = l.length := by rw [HAL.out]; simp
   rw [e] at hh ⊢
   exact args_of (l := l) (fun t ht => HIH.out t (by rw [HAL.out]; simp [ht])) adr cc (deep + 1) l3 w3 hh HO3.out hw3 hbf hb3 h03 (by omega) (by omega) (by omega))
 have HSL : Hid (ExL R (x :: l) (.slice (some ⟨b3, o3, none⟩) a.length sc)) := Li (by have := HXA.out; rwa [HAL.out] at this ⊢)
 have HDR : Hid (sc ≠ 1 → ExL R l (.slice (some ⟨b3, o3 + 11, none⟩) (a.length - 1) (sc - 1))) := Li (fun h => by
   have e : a.length - 1 = l.length := by rw [HAL.out]; simp
   rw [e]; exact HSL.out.drop1 h)
 have HD1 : Hid (sc = 1 → ExL R l (.slice (some ⟨b3, o3, none⟩) (a.length - 1) 0)) := Li (fun h => by
   have e : l = [] := len0 (by have e : a.length - 1 = l.length := by rw [HAL.out]; simp
                               omega)
   rw [show a.length - 1 = 0 by omega, e]; exact .emp _ _ (Nat.zero_le _))
 have HS1 : Hid (-1 ≤ l3 ∧ l3 ≤ l1) := Li ⟨hl31, hl32⟩
 clear hok3 HC
 rcases Nat.lt_or_ge 1 sc with h1c | h1c
 · go_wp2_with fail
   with_reducible refine (HA.out _ _ (HDR.out (by omega))).mono ?_
   rintro e w4 ⟨y, l4, rfl, hb4, hu4, hl41, hl42, hok4⟩
   have FIN : Hid ((FPost bf lf w (fun n => OkE (.mk 14 op tx v nm a b c d) ∧ (ctE (.mk 14 op tx v nm a b c d) : Int) ≤ n) (.returned (.bool y)) w4)) := Li ⟨y, l4, rfl, hb4, HU3.out.trans hu4, hl41, by omega, fun h => by
     obtain ⟨h04, hP4, hC4⟩ := hok4 h
     refine ⟨h04, ?_, ?_⟩
     · rw [HCB.out, HAL.out]; exact .call _ _ _ _ _ _ _ _ hP3 hP4
     · rw [ctE_mk, HCB.out, HAL.out]; simp; omega⟩
   clear HK2 HU2 HU3 hb3 hb4 hu4 hok4 HE2
   go_wp2_with fail
   go_ret
   exact FIN.out
 · obtain rfl : sc = 1 := by omega
   have HA0 := HA.out _ _ (HD1.out rfl)
   rw [show a.length - 1 = 0 by omega] at HA0
   have HA0 := Li HA0
   go_wp2_with fail
   with_reducible refine HA0.out.mono ?_
   rintro e w4 ⟨y, l4, rfl, hb4, hu4, hl41, hl42, hok4⟩
   have FIN : Hid ((FPost bf lf w (fun n => OkE (.mk 14 op tx v nm a b c d) ∧ (ctE (.mk 14 op tx v nm a b c d) : Int) ≤ n) (.returned (.bool y)) w4)) := Li ⟨y, l4, rfl, hb4, HU3.out.trans hu4, hl41, by omega, fun h => by
     obtain ⟨h04, hP4, hC4⟩ := hok4 h
     refine ⟨h04, ?_, ?_⟩
     · rw [HCB.out, HAL.out]; exact .call _ _ _ _ _ _ _ _ hP3 hP4
     · rw [ctE_mk, HCB.out, HAL.out]; simp; omega⟩
   clear HK2 HU2 HU3 hb3 hb4 hu4 hok4 HE2
   go_wp2_with fail
   go_ret
   exact FIN.out
set_option maxHeartbeats 6400000 in
theorem expr_k18 {R : Nat → Nat → Option Value} {B bf : Nat} (op : Int) (tx : ByteArray) (v : VV) (nm : List ByteArray) (a b c d : List Tr) (ma ka sa pa : Option Addr) (mc kc sc pc : Nat) (deep lf : Int) (w : World) (IH : ∀ s ∈ a, FEx R B bf s ∧ ∀ k ∈ s.a, FEx R B bf k) (IHP : ∀ p ∈ b, ∀ k ∈ p.a, FEx R B bf k)
   (hvr : VaR R v [.int .i64 v.kd, .bool v.nb, .slice ma v.ms.length mc, .int .u64 v.ub, .string v.tx, .slice ka v.kn kc]) (hxa : ExL R a (.slice sa a.length sc)) (hpb : PaL R b (.slice pa b.length pc)) (htx : tx.size ≤ maxLen) (ho : Old R B w) (hB : B ≤ w.heap.size) (hbf : B ≤ bf) (hb : Blk w bf 37 [.int .i64 lf]) (h0 : 0 ≤ lf) (h300 : lf ≤ 300) (hd : 0 ≤ deep) (hd2 : deep ≤ 25) :
   Calls Tryz.prog 26 #[.pointer (some ⟨bf, 0, none⟩), .agg #[.int .i64 18, .int .i64 op, .string tx, .int .i64 v.kd, .bool v.nb, .slice ma v.ms.length mc, .int .u64 v.ub, .string v.tx, .slice ka v.kn kc, .slice sa a.length sc, .slice pa b.length pc], .int .i64 deep] w (FPost bf lf w (fun n => OkE (.mk 18 op tx v nm a b c d) ∧ (ctE (.mk 18 op tx v nm a b c d) : Int) ≤ n)) := by
 obtain ⟨W0, hW0⟩ : ∃ W0, W0 = w.alloc (.cells #[.int .i64 18, .int .i64 op, .string tx, .int .i64 v.kd, .bool v.nb, .slice ma v.ms.length mc, .int .u64 v.ub, .string v.tx, .slice ka v.kn kc, .slice sa a.length sc, .slice pa b.length pc] 75) := ⟨_, rfl⟩
 have hu0 : Up (some bf) w W0 := by rw [hW0]; exact (Up.refl (some bf) w).alloc _
 have E0 : Blk W0 w.heap.size 75 [.int .i64 18, .int .i64 op, .string tx, .int .i64 v.kd, .bool v.nb, .slice ma v.ms.length mc, .int .u64 v.ub, .string v.tx, .slice ka v.kn kc, .slice sa a.length sc, .slice pa b.length pc] := by rw [hW0]; exact Blk.new w _ _
 have hbl := hb.lt
 have hK0 : Blk W0 bf 37 [.int .i64 lf] := by rw [hW0]; exact hb.alloc _
 have hW0s : W0.heap.size = w.heap.size + 1 := by rw [hW0]; simp
 have hO0 : Old R B W0 := ho.up hu0 hbf hB
 have hne : w.heap.size ≠ bf := by omega
 have TK := Li (takes_any bf lf deep W0 hK0 h0 h300 hd (by omega))
 have KK : Hid (∀ W, Calls Tryz.prog 29 #[.int .i64 18] W (fun e w' => e = .returned (.int .i64 1) ∧ W = w')) := Li (fun W => by
   have h := treeKids_any 18 W
   have e : tkK 18 = 1 := by decide
   rw [e] at h
   exact h)
 have HU0 := Li hu0; have HK0 := Li hK0; have HE0 := Li E0; have HO := Li ho
 have HIH := Li IH; have HIP := Li IHP; have HXA := Li hxa; have HPB := Li hpb; have HTX := Li htx; have HVR := Li hvr
 clear hu0 E0 hK0 hO0 hb ho IH IHP hxa hpb htx hvr
 have hm : a.length ≤ sc ∧ sc ≤ maxLen := by
   obtain ⟨_, _, e, h1, h2, _⟩ := HXA.out.form
   simp only [Value.slice.injEq, true_and] at e
   rw [e.2]; exact ⟨h1, h2⟩
 unfold maxLen at hm
 obtain ⟨hm1, hm2⟩ := hm
 subst hW0
 go_enter Tryz.func26, Tryz.ntmps26
 go_wp2_with (go_at_call 29; refine (KK.out _).mono ?_; rintro e w' ⟨rfl, rfl⟩)
 refine TK.out.mono ?_
 rintro e w1 ⟨y, l1, rfl, hb1, hu1, hl11, hl12, hok1⟩
 have HK1 := Li hb1
 have HU1 := Li (HU0.out.trans hu1)
 have hE1 := HE0.out.up hu1 (by simp only [ne_eq, Option.some.injEq]; exact hne)
 have f0 := hE1.cell 0 (by simp)
 have f1 := hE1.cell 1 (by simp)
 have f2 := hE1.cell 2 (by simp)
 have f3 := hE1.cell 3 (by simp)
 have f4 := hE1.cell 4 (by simp)
 have f5 := hE1.cell 5 (by simp)
 have f6 := hE1.cell 6 (by simp)
 have f7 := hE1.cell 7 (by simp)
 have f8 := hE1.cell 8 (by simp)
 have f9 := hE1.cell 9 (by simp)
 have f10 := hE1.cell 10 (by simp)
 have HE1 := Li hE1
 have hs1 : w.heap.size < w1.heap.size := hE1.lt
 clear hE1 hb1 hu1 TK HE0 HK0 HU0 KK
 cases y with
 | false =>
   have FIN : Hid ((FPost bf lf w (fun n => OkE (.mk 18 op tx v nm a b c d) ∧ (ctE (.mk 18 op tx v nm a b c d) : Int) ≤ n) (.returned (.bool false)) w1)) := Li ⟨false, l1, rfl, HK1.out, HU1.out, hl11, by omega, fun h => by simp at h⟩
   clear HK1 HU1 hok1 HE1
   go_wp2_with fail
   go_ret
   exact FIN.out
 | true =>
 obtain ⟨h01, hdp, h11⟩ := hok1 rfl
 have HCL := Li (treeClean_any 18 op v.kd v.ub tx v.tx v.nb ma ka sa pa v.ms.length mc v.kn kc a.length sc b.length pc w1)
 clear hok1
 go_wp2_with fail
 refine HCL.out.mono ?_
 rintro e w2 ⟨y, rfl, hcl, hb2⟩
 have HU2 := Li (HU1.out.trans (Up.of_below hb2))
 have HK2 := Li (HK1.out.below hb2 HK1.out.lt)
 have hE2 := HE1.out.below hb2 HE1.out.lt
 have HO2 := Li (HO.out.up HU2.out hbf hB)
 have hw2 : B ≤ w2.heap.size := Nat.le_trans hB HU2.out.size
 have d0 := hE2.cell 0 (by simp)
 have d1 := hE2.cell 1 (by simp)
 have d2 := hE2.cell 2 (by simp)
 have d3 := hE2.cell 3 (by simp)
 have d4 := hE2.cell 4 (by simp)
 have d5 := hE2.cell 5 (by simp)
 have d6 := hE2.cell 6 (by simp)
 have d7 := hE2.cell 7 (by simp)
 have d8 := hE2.cell 8 (by simp)
 have d9 := hE2.cell 9 (by simp)
 have d10 := hE2.cell 10 (by simp)
 have HE2 := Li hE2
 have hs2 : w.heap.size < w2.heap.size := hE2.lt
 have HCN := Li hcl
 clear hE2 hb2 HCL hcl HE1 HK1 HU1 f0 f1 f2 f3 f4 f5 f6 f7 f8 f9 f10
 cases y with
 | false =>
   have FIN : Hid ((FPost bf lf w (fun n => OkE (.mk 18 op tx v nm a b c d) ∧ (ctE (.mk 18 op tx v nm a b c d) : Int) ≤ n) (.returned (.bool false)) w2)) := Li ⟨false, l1, rfl, HK2.out, HU2.out, hl11, by omega, fun h => by simp at h⟩
   clear HK2 HU2 HE2
   go_wp2_with fail
   go_ret
   exact FIN.out
 | true =>
 by_cases hn : a.length ≠ 1
 · have FIN : Hid ((FPost bf lf w (fun n => OkE (.mk 18 op tx v nm a b c d) ∧ (ctE (.mk 18 op tx v nm a b c d) : Int) ≤ n) (.returned (.bool false)) w2)) := Li ⟨false, l1, rfl, HK2.out, HU2.out, hl11, by omega, fun h => by simp at h⟩
   have hn1 : ((a.length : Int) != 1) = true := by rw [bne_iff_ne]; omega
   clear HK2 HU2 HE2 hn
   go_wp2_with fail
   go_ret
   exact FIN.out
 have HN : Hid (a.length = 1) := Li (by omega)
 have hn1 : ((a.length : Int) != 1) = false := by rw [bne_eq_false_iff_eq]; omega
 clear hn
 have HC := Li (params_of (l := b) HIP.out pa pc (deep + 1) l1 w2 HPB.out HO2.out hw2 hbf HK2.out h01 (by omega) (by omega) (by omega))
 go_wp2_with fail
 refine HC.out.mono ?_
 rintro e w3 ⟨y, l3, rfl, hb3, hu3, hl31, hl32, hok3⟩
 have HU3 := Li (HU2.out.trans hu3)
 have hE3 := HE2.out.up hu3 (by simp only [ne_eq, Option.some.injEq]; exact hne)
 have g9 := hE3.cell 9 (by simp)
 have HO3 := Li (HO.out.up HU3.out hbf hB)
 have hw3 : B ≤ w3.heap.size := Nat.le_trans hB HU3.out.size
 clear hE3 hu3
 cases y with
 | false =>
   have FIN : Hid ((FPost bf lf w (fun n => OkE (.mk 18 op tx v nm a b c d) ∧ (ctE (.mk 18 op tx v nm a b c d) : Int) ≤ n) (.returned (.bool false)) w3)) := Li ⟨false, l3, rfl, hb3, HU3.out, by omega, by omega, fun h => by simp at h⟩
   clear hb3 hok3
   go_wp2_with fail
   go_ret
   exact FIN.out
 | true =>
 obtain ⟨h03, hP3, hC3⟩ := hok3 rfl
 have HA := Li (all_of (l := a) (fun x hx => (HIH.out x hx).1) sa sc (deep + 1) l3 w3 HXA.out HO3.out hw3 hbf hb3 h03 (by omega) (by omega) (by omega))
 clear hok3 HC hn1
 go_wp2_with fail
 with_reducible refine HA.out.mono ?_
 rintro e w4 ⟨y, l4, rfl, hb4, hu4, hl41, hl42, hok4⟩
 have FIN : Hid ((FPost bf lf w (fun n => OkE (.mk 18 op tx v nm a b c d) ∧ (ctE (.mk 18 op tx v nm a b c d) : Int) ≤ n) (.returned (.bool y)) w4)) := Li ⟨y, l4, rfl, hb4, HU3.out.trans hu4, hl41, by omega, fun h => by
   obtain ⟨h04, hP4, hC4⟩ := hok4 h
   refine ⟨h04, ?_, ?_⟩
   · obtain ⟨x, e⟩ := len1 HN.out
     rw [e] at hP4 ⊢
     exact .lam _ _ _ _ _ _ _ _ (hP4 x (by simp)) hP3
   · rw [ctE_mk]; simp; omega⟩
 clear HK2 HU2 HU3 hb3 hb4 hu4 hok4 HE2
 go_wp2_with fail
 go_ret
 exact FIN.out
set_option maxHeartbeats 6400000 in
theorem expr_k19 {R : Nat → Nat → Option Value} {B bf : Nat} (op : Int) (tx : ByteArray) (v : VV) (nm : List ByteArray) (a b c d : List Tr) (ma ka sa pa : Option Addr) (mc kc sc pc : Nat) (deep lf : Int) (w : World) (IH : ∀ s ∈ a, FEx R B bf s ∧ ∀ k ∈ s.a, FEx R B bf k) (IHP : ∀ p ∈ b, ∀ k ∈ p.a, FEx R B bf k)
   (hvr : VaR R v [.int .i64 v.kd, .bool v.nb, .slice ma v.ms.length mc, .int .u64 v.ub, .string v.tx, .slice ka v.kn kc]) (hxa : ExL R a (.slice sa a.length sc)) (hpb : PaL R b (.slice pa b.length pc)) (htx : tx.size ≤ maxLen) (ho : Old R B w) (hB : B ≤ w.heap.size) (hbf : B ≤ bf) (hb : Blk w bf 37 [.int .i64 lf]) (h0 : 0 ≤ lf) (h300 : lf ≤ 300) (hd : 0 ≤ deep) (hd2 : deep ≤ 25) :
   Calls Tryz.prog 26 #[.pointer (some ⟨bf, 0, none⟩), .agg #[.int .i64 19, .int .i64 op, .string tx, .int .i64 v.kd, .bool v.nb, .slice ma v.ms.length mc, .int .u64 v.ub, .string v.tx, .slice ka v.kn kc, .slice sa a.length sc, .slice pa b.length pc], .int .i64 deep] w (FPost bf lf w (fun n => OkE (.mk 19 op tx v nm a b c d) ∧ (ctE (.mk 19 op tx v nm a b c d) : Int) ≤ n)) := by
 obtain ⟨W0, hW0⟩ : ∃ W0, W0 = w.alloc (.cells #[.int .i64 19, .int .i64 op, .string tx, .int .i64 v.kd, .bool v.nb, .slice ma v.ms.length mc, .int .u64 v.ub, .string v.tx, .slice ka v.kn kc, .slice sa a.length sc, .slice pa b.length pc] 75) := ⟨_, rfl⟩
 have hu0 : Up (some bf) w W0 := by rw [hW0]; exact (Up.refl (some bf) w).alloc _
 have E0 : Blk W0 w.heap.size 75 [.int .i64 19, .int .i64 op, .string tx, .int .i64 v.kd, .bool v.nb, .slice ma v.ms.length mc, .int .u64 v.ub, .string v.tx, .slice ka v.kn kc, .slice sa a.length sc, .slice pa b.length pc] := by rw [hW0]; exact Blk.new w _ _
 have hbl := hb.lt
 have hK0 : Blk W0 bf 37 [.int .i64 lf] := by rw [hW0]; exact hb.alloc _
 have hW0s : W0.heap.size = w.heap.size + 1 := by rw [hW0]; simp
 have hO0 : Old R B W0 := ho.up hu0 hbf hB
 have hne : w.heap.size ≠ bf := by omega
 have TK := Li (takes_any bf lf deep W0 hK0 h0 h300 hd (by omega))
 have KK : Hid (∀ W, Calls Tryz.prog 29 #[.int .i64 19] W (fun e w' => e = .returned (.int .i64 (-1)) ∧ W = w')) := Li (fun W => by
   have h := treeKids_any 19 W
   have e : tkK 19 = (-1) := by decide
   rw [e] at h
   exact h)
 have HU0 := Li hu0; have HK0 := Li hK0; have HE0 := Li E0; have HO := Li ho
 have HIH := Li IH; have HIP := Li IHP; have HXA := Li hxa; have HPB := Li hpb; have HTX := Li htx; have HVR := Li hvr
 clear hu0 E0 hK0 hO0 hb ho IH IHP hxa hpb htx hvr
 have hm : a.length ≤ sc ∧ sc ≤ maxLen := by
   obtain ⟨_, _, e, h1, h2, _⟩ := HXA.out.form
   simp only [Value.slice.injEq, true_and] at e
   rw [e.2]; exact ⟨h1, h2⟩
 unfold maxLen at hm
 obtain ⟨hm1, hm2⟩ := hm
 subst hW0
 go_enter Tryz.func26, Tryz.ntmps26
 go_wp2_with (go_at_call 29; refine (KK.out _).mono ?_; rintro e w' ⟨rfl, rfl⟩)
 refine TK.out.mono ?_
 rintro e w1 ⟨y, l1, rfl, hb1, hu1, hl11, hl12, hok1⟩
 have HK1 := Li hb1
 have HU1 := Li (HU0.out.trans hu1)
 have hE1 := HE0.out.up hu1 (by simp only [ne_eq, Option.some.injEq]; exact hne)
 have f0 := hE1.cell 0 (by simp)
 have f1 := hE1.cell 1 (by simp)
 have f2 := hE1.cell 2 (by simp)
 have f3 := hE1.cell 3 (by simp)
 have f4 := hE1.cell 4 (by simp)
 have f5 := hE1.cell 5 (by simp)
 have f6 := hE1.cell 6 (by simp)
 have f7 := hE1.cell 7 (by simp)
 have f8 := hE1.cell 8 (by simp)
 have f9 := hE1.cell 9 (by simp)
 have f10 := hE1.cell 10 (by simp)
 have HE1 := Li hE1
 have hs1 : w.heap.size < w1.heap.size := hE1.lt
 clear hE1 hb1 hu1 TK HE0 HK0 HU0 KK
 cases y with
 | false =>
   have FIN : Hid ((FPost bf lf w (fun n => OkE (.mk 19 op tx v nm a b c d) ∧ (ctE (.mk 19 op tx v nm a b c d) : Int) ≤ n) (.returned (.bool false)) w1)) := Li ⟨false, l1, rfl, HK1.out, HU1.out, hl11, by omega, fun h => by simp at h⟩
   clear HK1 HU1 hok1 HE1
   go_wp2_with fail
   go_ret
   exact FIN.out
 | true =>
 obtain ⟨h01, hdp, h11⟩ := hok1 rfl
 have HCL := Li (treeClean_any 19 op v.kd v.ub tx v.tx v.nb ma ka sa pa v.ms.length mc v.kn kc a.length sc b.length pc w1)
 clear hok1
 go_wp2_with fail
 refine HCL.out.mono ?_
 rintro e w2 ⟨y, rfl, hcl, hb2⟩
 have HU2 := Li (HU1.out.trans (Up.of_below hb2))
 have HK2 := Li (HK1.out.below hb2 HK1.out.lt)
 have hE2 := HE1.out.below hb2 HE1.out.lt
 have HO2 := Li (HO.out.up HU2.out hbf hB)
 have hw2 : B ≤ w2.heap.size := Nat.le_trans hB HU2.out.size
 have d0 := hE2.cell 0 (by simp)
 have d1 := hE2.cell 1 (by simp)
 have d2 := hE2.cell 2 (by simp)
 have d3 := hE2.cell 3 (by simp)
 have d4 := hE2.cell 4 (by simp)
 have d5 := hE2.cell 5 (by simp)
 have d6 := hE2.cell 6 (by simp)
 have d7 := hE2.cell 7 (by simp)
 have d8 := hE2.cell 8 (by simp)
 have d9 := hE2.cell 9 (by simp)
 have d10 := hE2.cell 10 (by simp)
 have HE2 := Li hE2
 have hs2 : w.heap.size < w2.heap.size := hE2.lt
 have HCN := Li hcl
 clear hE2 hb2 HCL hcl HE1 HK1 HU1 f0 f1 f2 f3 f4 f5 f6 f7 f8 f9 f10
 cases y with
 | false =>
   have FIN : Hid ((FPost bf lf w (fun n => OkE (.mk 19 op tx v nm a b c d) ∧ (ctE (.mk 19 op tx v nm a b c d) : Int) ≤ n) (.returned (.bool false)) w2)) := Li ⟨false, l1, rfl, HK2.out, HU2.out, hl11, by omega, fun h => by simp at h⟩
   clear HK2 HU2 HE2
   go_wp2_with fail
   go_ret
   exact FIN.out
 | true =>
 have HCB : Hid (b = []) := Li (by rcases HCN.out rfl with h | h <;> first | omega | exact len0 h)
 by_cases hnil : a.length < 2
 · have FIN : Hid ((FPost bf lf w (fun n => OkE (.mk 19 op tx v nm a b c d) ∧ (ctE (.mk 19 op tx v nm a b c d) : Int) ≤ n) (.returned (.bool false)) w2)) := Li ⟨false, l1, rfl, HK2.out, HU2.out, by omega, by omega, fun h => by simp at h⟩
   have hz : decide (1 < a.length) = false := decide_eq_false (by omega)
   clear HK2 HU2 HE2
   go_wp2_with fail
   go_ret
   exact FIN.out
 obtain ⟨x, l0, hal⟩ : ∃ x l, a = x :: l := List.exists_cons_of_ne_nil (by intro h; rw [h] at hnil; simp at hnil)
 obtain ⟨g, l, hal2⟩ : ∃ x l, l0 = x :: l := List.exists_cons_of_ne_nil (by intro h; rw [hal, h] at hnil; simp at hnil)
 subst hal2
 obtain ⟨b3, o3, rfl, hn3, hc3, hm3, hx0⟩ := ExL.at0 (by have := HXA.out; rwa [hal] at this)
 obtain ⟨kd', op', tx', v', nm', ca', cb', cc', cd', ma', mc', ka', kc', sa', sc', pa', pc', et', hxv', hx', hbB', q0, q1, q2, q3, q4, q5, q6, q7, q8, q9, q10⟩ := hx0.cells HO2.out
 have HC := Li ((HIH.out x (by rw [hal]; simp)).1 _ (deep + 1) l1 w2 hxv' HO2.out hw2 hbf HK2.out h01 (by omega) (by omega) (by omega))
 have HAL := Li hal
 have hl1 : 2 ≤ a.length := by omega
 have hz : decide (1 < a.length) = true := decide_eq_true (by omega)
 clear et' hxv' hx' hx0 hal hn3 hnil hc3 hm3
 go_wp2_with fail
 refine HC.out.mono ?_
 rintro e w3 ⟨y, l3, rfl, hb3, hu3, hl31, hl32, hok3⟩
 have HU3 := Li (HU2.out.trans hu3)
 have hE3 := HE2.out.up hu3 (by simp only [ne_eq, Option.some.injEq]; exact hne)
 have g9 := hE3.cell 9 (by simp)
 have HO3 := Li (HO.out.up HU3.out hbf hB)
 have hw3 : B ≤ w3.heap.size := Nat.le_trans hB HU3.out.size
 clear hE3 hu3
 cases y with
 | false =>
   have FIN : Hid ((FPost bf lf w (fun n => OkE (.mk 19 op tx v nm a b c d) ∧ (ctE (.mk 19 op tx v nm a b c d) : Int) ≤ n) (.returned (.bool false)) w3)) := Li ⟨false, l3, rfl, hb3, HU3.out, by omega, by omega, fun h => by simp at h⟩
   clear hb3 hok3
   go_wp2_with fail
   go_ret
   exact FIN.out
 | true =>
 obtain ⟨h03, hP3, hC3⟩ := hok3 rfl
 have HSL : Hid (ExL R (x :: g :: l) (.slice (some ⟨b3, o3, none⟩) a.length sc)) := Li (by have := HXA.out; rwa [HAL.out] at this ⊢)
 have HA : Hid (Calls Tryz.prog 33 #[.pointer (some ⟨bf, 0, none⟩), .slice (some ⟨b3, o3 + 11, none⟩) (a.length - 1) (sc - 1), .int .i64 (deep + 1)] w3 (FPost bf l3 w3 (fun n => (∀ t ∈ g :: l, OkC t) ∧ (ctEs (g :: l) : Int) ≤ n ∧ ∀ t, (g :: l)[0]? = some t → t.kd = 21))) := Li (by
   have e : a.length - 1 = (g :: l).length := by rw [HAL.out]; simp
   rw [e]
   exact clauses_of (l := g :: l) (fun t ht => HIH.out t (by rw [HAL.out]; exact List.mem_cons_of_mem _ ht)) _ _ (deep + 1) l3 w3 (HSL.out.drop1 (by omega)) HO3.out hw3 hbf hb3 h03 (by omega) (by omega) (by omega))
 clear hok3 HC
 go_wp2_with fail
 with_reducible refine HA.out.mono ?_
 rintro e w4 ⟨y, l4, rfl, hb4, hu4, hl41, hl42, hok4⟩
 have FIN : Hid ((FPost bf lf w (fun n => OkE (.mk 19 op tx v nm a b c d) ∧ (ctE (.mk 19 op tx v nm a b c d) : Int) ≤ n) (.returned (.bool y)) w4)) := Li ⟨y, l4, rfl, hb4, HU3.out.trans hu4, hl41, by omega, fun h => by
   obtain ⟨h04, hP4, hC4, hF4⟩ := hok4 h
   refine ⟨h04, ?_, ?_⟩
   · rw [HCB.out, HAL.out]; exact .listOf _ _ _ _ _ _ _ _ _ hP3 (hF4 g rfl) hP4
   · rw [ctE_mk, HCB.out, HAL.out]; simp only [ctEs_cons, ctEs_nil, ctPs_nil] at *; simp; omega⟩
 clear HK2 HU2 HU3 hb3 hb4 hu4 hok4 HE2
 go_wp2_with fail
 go_ret
 exact FIN.out
set_option maxHeartbeats 6400000 in
theorem expr_k20 {R : Nat → Nat → Option Value} {B bf : Nat} (op : Int) (tx : ByteArray) (v : VV) (nm : List ByteArray) (a b c d : List Tr) (ma ka sa pa : Option Addr) (mc kc sc pc : Nat) (deep lf : Int) (w : World) (IH : ∀ s ∈ a, FEx R B bf s ∧ ∀ k ∈ s.a, FEx R B bf k) (IHP : ∀ p ∈ b, ∀ k ∈ p.a, FEx R B bf k)
   (hvr : VaR R v [.int .i64 v.kd, .bool v.nb, .slice ma v.ms.length mc, .int .u64 v.ub, .string v.tx, .slice ka v.kn kc]) (hxa : ExL R a (.slice sa a.length sc)) (hpb : PaL R b (.slice pa b.length pc)) (htx : tx.size ≤ maxLen) (ho : Old R B w) (hB : B ≤ w.heap.size) (hbf : B ≤ bf) (hb : Blk w bf 37 [.int .i64 lf]) (h0 : 0 ≤ lf) (h300 : lf ≤ 300) (hd : 0 ≤ deep) (hd2 : deep ≤ 25) :
   Calls Tryz.prog 26 #[.pointer (some ⟨bf, 0, none⟩), .agg #[.int .i64 20, .int .i64 op, .string tx, .int .i64 v.kd, .bool v.nb, .slice ma v.ms.length mc, .int .u64 v.ub, .string v.tx, .slice ka v.kn kc, .slice sa a.length sc, .slice pa b.length pc], .int .i64 deep] w (FPost bf lf w (fun n => OkE (.mk 20 op tx v nm a b c d) ∧ (ctE (.mk 20 op tx v nm a b c d) : Int) ≤ n)) := by
 obtain ⟨W0, hW0⟩ : ∃ W0, W0 = w.alloc (.cells #[.int .i64 20, .int .i64 op, .string tx, .int .i64 v.kd, .bool v.nb, .slice ma v.ms.length mc, .int .u64 v.ub, .string v.tx, .slice ka v.kn kc, .slice sa a.length sc, .slice pa b.length pc] 75) := ⟨_, rfl⟩
 have hu0 : Up (some bf) w W0 := by rw [hW0]; exact (Up.refl (some bf) w).alloc _
 have E0 : Blk W0 w.heap.size 75 [.int .i64 20, .int .i64 op, .string tx, .int .i64 v.kd, .bool v.nb, .slice ma v.ms.length mc, .int .u64 v.ub, .string v.tx, .slice ka v.kn kc, .slice sa a.length sc, .slice pa b.length pc] := by rw [hW0]; exact Blk.new w _ _
 have hbl := hb.lt
 have hK0 : Blk W0 bf 37 [.int .i64 lf] := by rw [hW0]; exact hb.alloc _
 have hW0s : W0.heap.size = w.heap.size + 1 := by rw [hW0]; simp
 have hO0 : Old R B W0 := ho.up hu0 hbf hB
 have hne : w.heap.size ≠ bf := by omega
 have TK := Li (takes_any bf lf deep W0 hK0 h0 h300 hd (by omega))
 have KK : Hid (∀ W, Calls Tryz.prog 29 #[.int .i64 20] W (fun e w' => e = .returned (.int .i64 (-1)) ∧ W = w')) := Li (fun W => by
   have h := treeKids_any 20 W
   have e : tkK 20 = (-1) := by decide
   rw [e] at h
   exact h)
 have HU0 := Li hu0; have HK0 := Li hK0; have HE0 := Li E0; have HO := Li ho
 have HIH := Li IH; have HIP := Li IHP; have HXA := Li hxa; have HPB := Li hpb; have HTX := Li htx; have HVR := Li hvr
 clear hu0 E0 hK0 hO0 hb ho IH IHP hxa hpb htx hvr
 have hm : a.length ≤ sc ∧ sc ≤ maxLen := by
   obtain ⟨_, _, e, h1, h2, _⟩ := HXA.out.form
   simp only [Value.slice.injEq, true_and] at e
   rw [e.2]; exact ⟨h1, h2⟩
 unfold maxLen at hm
 obtain ⟨hm1, hm2⟩ := hm
 subst hW0
 go_enter Tryz.func26, Tryz.ntmps26
 go_wp2_with (go_at_call 29; refine (KK.out _).mono ?_; rintro e w' ⟨rfl, rfl⟩)
 refine TK.out.mono ?_
 rintro e w1 ⟨y, l1, rfl, hb1, hu1, hl11, hl12, hok1⟩
 have HK1 := Li hb1
 have HU1 := Li (HU0.out.trans hu1)
 have hE1 := HE0.out.up hu1 (by simp only [ne_eq, Option.some.injEq]; exact hne)
 have f0 := hE1.cell 0 (by simp)
 have f1 := hE1.cell 1 (by simp)
 have f2 := hE1.cell 2 (by simp)
 have f3 := hE1.cell 3 (by simp)
 have f4 := hE1.cell 4 (by simp)
 have f5 := hE1.cell 5 (by simp)
 have f6 := hE1.cell 6 (by simp)
 have f7 := hE1.cell 7 (by simp)
 have f8 := hE1.cell 8 (by simp)
 have f9 := hE1.cell 9 (by simp)
 have f10 := hE1.cell 10 (by simp)
 have HE1 := Li hE1
 have hs1 : w.heap.size < w1.heap.size := hE1.lt
 clear hE1 hb1 hu1 TK HE0 HK0 HU0 KK
 cases y with
 | false =>
   have FIN : Hid ((FPost bf lf w (fun n => OkE (.mk 20 op tx v nm a b c d) ∧ (ctE (.mk 20 op tx v nm a b c d) : Int) ≤ n) (.returned (.bool false)) w1)) := Li ⟨false, l1, rfl, HK1.out, HU1.out, hl11, by omega, fun h => by simp at h⟩
   clear HK1 HU1 hok1 HE1
   go_wp2_with fail
   go_ret
   exact FIN.out
 | true =>
 obtain ⟨h01, hdp, h11⟩ := hok1 rfl
 have HCL := Li (treeClean_any 20 op v.kd v.ub tx v.tx v.nb ma ka sa pa v.ms.length mc v.kn kc a.length sc b.length pc w1)
 clear hok1
 go_wp2_with fail
 refine HCL.out.mono ?_
 rintro e w2 ⟨y, rfl, hcl, hb2⟩
 have HU2 := Li (HU1.out.trans (Up.of_below hb2))
 have HK2 := Li (HK1.out.below hb2 HK1.out.lt)
 have hE2 := HE1.out.below hb2 HE1.out.lt
 have HO2 := Li (HO.out.up HU2.out hbf hB)
 have hw2 : B ≤ w2.heap.size := Nat.le_trans hB HU2.out.size
 have d0 := hE2.cell 0 (by simp)
 have d1 := hE2.cell 1 (by simp)
 have d2 := hE2.cell 2 (by simp)
 have d3 := hE2.cell 3 (by simp)
 have d4 := hE2.cell 4 (by simp)
 have d5 := hE2.cell 5 (by simp)
 have d6 := hE2.cell 6 (by simp)
 have d7 := hE2.cell 7 (by simp)
 have d8 := hE2.cell 8 (by simp)
 have d9 := hE2.cell 9 (by simp)
 have d10 := hE2.cell 10 (by simp)
 have HE2 := Li hE2
 have hs2 : w.heap.size < w2.heap.size := hE2.lt
 have HCN := Li hcl
 clear hE2 hb2 HCL hcl HE1 HK1 HU1 f0 f1 f2 f3 f4 f5 f6 f7 f8 f9 f10
 cases y with
 | false =>
   have FIN : Hid ((FPost bf lf w (fun n => OkE (.mk 20 op tx v nm a b c d) ∧ (ctE (.mk 20 op tx v nm a b c d) : Int) ≤ n) (.returned (.bool false)) w2)) := Li ⟨false, l1, rfl, HK2.out, HU2.out, hl11, by omega, fun h => by simp at h⟩
   clear HK2 HU2 HE2
   go_wp2_with fail
   go_ret
   exact FIN.out
 | true =>
 have HCB : Hid (b = []) := Li (by rcases HCN.out rfl with h | h <;> first | omega | exact len0 h)
 by_cases hnil : a.length < 3
 · have FIN : Hid ((FPost bf lf w (fun n => OkE (.mk 20 op tx v nm a b c d) ∧ (ctE (.mk 20 op tx v nm a b c d) : Int) ≤ n) (.returned (.bool false)) w2)) := Li ⟨false, l1, rfl, HK2.out, HU2.out, by omega, by omega, fun h => by simp at h⟩
   have hz : decide (2 < a.length) = false := decide_eq_false (by omega)
   clear HK2 HU2 HE2
   go_wp2_with fail
   go_ret
   exact FIN.out
 obtain ⟨x, l0, hal⟩ : ∃ x l, a = x :: l := List.exists_cons_of_ne_nil (by intro h; rw [h] at hnil; simp at hnil)
 obtain ⟨y0, l00, hal2⟩ : ∃ x l, l0 = x :: l := List.exists_cons_of_ne_nil (by intro h; rw [hal, h] at hnil; simp at hnil)
 subst hal2
 obtain ⟨g, l, hal2⟩ : ∃ x l, l00 = x :: l := List.exists_cons_of_ne_nil (by intro h; rw [hal, h] at hnil; simp at hnil)
 subst hal2
 have HSL : Hid (ExL R (x :: y0 :: g :: l) (.slice sa a.length sc)) := Li (by have := HXA.out; rwa [hal] at this ⊢)
 obtain ⟨b3, o3, rfl, hn3, hc3, hm3, _⟩ := HSL.out.at0
 have HC := Li (all_of (l := [x, y0]) (fun z hz => (HIH.out z (by rw [hal]; simp at hz ⊢; rcases hz with h | h <;> simp [h])).1) (some ⟨b3, o3, none⟩) sc (deep + 1) l1 w2 (HSL.out.take2 (by omega)) HO2.out hw2 hbf HK2.out h01 (by omega) (by omega) (by omega))
 simp only [List.length_cons, List.length_nil] at HC
 have HAL := Li hal
 have hl1 : 3 ≤ a.length := by omega
 have hz : decide (2 < a.length) = true := decide_eq_true (by omega)
 clear hal hn3 hnil hc3 hm3
 go_wp2_with fail
 refine HC.out.mono ?_
 rintro e w3 ⟨y, l3, rfl, hb3, hu3, hl31, hl32, hok3⟩
 have HU3 := Li (HU2.out.trans hu3)
 have hE3 := HE2.out.up hu3 (by simp only [ne_eq, Option.some.injEq]; exact hne)
 have g9 := hE3.cell 9 (by simp)
 have HO3 := Li (HO.out.up HU3.out hbf hB)
 have hw3 : B ≤ w3.heap.size := Nat.le_trans hB HU3.out.size
 clear hE3 hu3
 cases y with
 | false =>
   have FIN : Hid ((FPost bf lf w (fun n => OkE (.mk 20 op tx v nm a b c d) ∧ (ctE (.mk 20 op tx v nm a b c d) : Int) ≤ n) (.returned (.bool false)) w3)) := Li ⟨false, l3, rfl, hb3, HU3.out, by omega, by omega, fun h => by simp at h⟩
   clear hb3 hok3
   go_wp2_with fail
   go_ret
   exact FIN.out
 | true =>
 obtain ⟨h03, hP3, hC3⟩ := hok3 rfl
 have HA : Hid (Calls Tryz.prog 33 #[.pointer (some ⟨bf, 0, none⟩), .slice (some ⟨b3, o3 + 22, none⟩) (a.length - 2) (sc - 2), .int .i64 (deep + 1)] w3 (FPost bf l3 w3 (fun n => (∀ t ∈ g :: l, OkC t) ∧ (ctEs (g :: l) : Int) ≤ n ∧ ∀ t, (g :: l)[0]? = some t → t.kd = 21))) := Li (by
   have e : a.length - 2 = (g :: l).length := by rw [HAL.out]; simp
   rw [e]
   have hd2 := (HSL.out.drop1 (by omega)).drop1 (by omega)
   exact clauses_of (l := g :: l) (fun t ht => HIH.out t (by rw [HAL.out]; exact List.mem_cons_of_mem _ (List.mem_cons_of_mem _ ht))) _ _ (deep + 1) l3 w3 hd2 HO3.out hw3 hbf hb3 h03 (by omega) (by omega) (by omega))
 clear hok3 HC
 go_wp2_with fail
 with_reducible refine HA.out.mono ?_
 rintro e w4 ⟨y, l4, rfl, hb4, hu4, hl41, hl42, hok4⟩
 have FIN : Hid ((FPost bf lf w (fun n => OkE (.mk 20 op tx v nm a b c d) ∧ (ctE (.mk 20 op tx v nm a b c d) : Int) ≤ n) (.returned (.bool y)) w4)) := Li ⟨y, l4, rfl, hb4, HU3.out.trans hu4, hl41, by omega, fun h => by
   obtain ⟨h04, hP4, hC4, hF4⟩ := hok4 h
   refine ⟨h04, ?_, ?_⟩
   · rw [HCB.out, HAL.out]; exact .dictOf _ _ _ _ _ _ _ _ _ _ (hP3 x (by simp)) (hP3 y0 (by simp)) (hF4 g rfl) hP4
   · rw [ctE_mk, HCB.out, HAL.out]; simp only [ctEs_cons, ctEs_nil, ctPs_nil] at *; simp; omega⟩
 clear HK2 HU2 HU3 hb3 hb4 hu4 hok4 HE2
 go_wp2_with fail
 go_ret
 exact FIN.out
def FRelO (bf : Nat) (lf : Int) (w : World) (l : List Tr) (i : Value) (wr : World) : Prop :=
 FRel bf lf w l OkO ctEs i wr ∧ Hid (i ≠ .int .i64 0 → ∀ t, l[0]? = some t → OkE t)
theorem FRelO.first {l : List Tr} {k : Nat} {t : Tr} (h : Value.int .i64 (k : Int) ≠ .int .i64 0 → ∀ t, l[0]? = some t → OkE t) (ht : l[k]? = some t) (h0 : k = 0 → OkE t) : Value.int .i64 ((k : Int) + 1) ≠ .int .i64 0 → ∀ t, l[0]? = some t → OkE t := by
 intro _ u hu
 by_cases hk : k = 0
 · subst hk
   rw [ht] at hu
   injection hu with hu
   rw [← hu]; exact h0 rfl
 · exact h (by simp; omega) u hu
set_option maxHeartbeats 6400000 in
theorem expr_k12 {R : Nat → Nat → Option Value} {B bf : Nat} (op : Int) (tx : ByteArray) (v : VV) (nm : List ByteArray) (a b c d : List Tr) (ma ka sa pa : Option Addr) (mc kc sc pc : Nat) (deep lf : Int) (w : World) (IH : ∀ s ∈ a, FEx R B bf s ∧ ∀ k ∈ s.a, FEx R B bf k) (IHP : ∀ p ∈ b, ∀ k ∈ p.a, FEx R B bf k)
   (hvr : VaR R v [.int .i64 v.kd, .bool v.nb, .slice ma v.ms.length mc, .int .u64 v.ub, .string v.tx, .slice ka v.kn kc]) (hxa : ExL R a (.slice sa a.length sc)) (hpb : PaL R b (.slice pa b.length pc)) (htx : tx.size ≤ maxLen) (ho : Old R B w) (hB : B ≤ w.heap.size) (hbf : B ≤ bf) (hb : Blk w bf 37 [.int .i64 lf]) (h0 : 0 ≤ lf) (h300 : lf ≤ 300) (hd : 0 ≤ deep) (hd2 : deep ≤ 25) :
   Calls Tryz.prog 26 #[.pointer (some ⟨bf, 0, none⟩), .agg #[.int .i64 12, .int .i64 op, .string tx, .int .i64 v.kd, .bool v.nb, .slice ma v.ms.length mc, .int .u64 v.ub, .string v.tx, .slice ka v.kn kc, .slice sa a.length sc, .slice pa b.length pc], .int .i64 deep] w (FPost bf lf w (fun n => OkE (.mk 12 op tx v nm a b c d) ∧ (ctE (.mk 12 op tx v nm a b c d) : Int) ≤ n)) := by
 obtain ⟨W0, hW0⟩ : ∃ W0, W0 = w.alloc (.cells #[.int .i64 12, .int .i64 op, .string tx, .int .i64 v.kd, .bool v.nb, .slice ma v.ms.length mc, .int .u64 v.ub, .string v.tx, .slice ka v.kn kc, .slice sa a.length sc, .slice pa b.length pc] 75) := ⟨_, rfl⟩
 have hu0 : Up (some bf) w W0 := by rw [hW0]; exact (Up.refl (some bf) w).alloc _
 have E0 : Blk W0 w.heap.size 75 [.int .i64 12, .int .i64 op, .string tx, .int .i64 v.kd, .bool v.nb, .slice ma v.ms.length mc, .int .u64 v.ub, .string v.tx, .slice ka v.kn kc, .slice sa a.length sc, .slice pa b.length pc] := by rw [hW0]; exact Blk.new w _ _
 have hbl := hb.lt
 have hK0 : Blk W0 bf 37 [.int .i64 lf] := by rw [hW0]; exact hb.alloc _
 have hW0s : W0.heap.size = w.heap.size + 1 := by rw [hW0]; simp
 have hO0 : Old R B W0 := ho.up hu0 hbf hB
 have hne : w.heap.size ≠ bf := by omega
 have TK := Li (takes_any bf lf deep W0 hK0 h0 h300 hd (by omega))
 have KK : Hid (∀ W, Calls Tryz.prog 29 #[.int .i64 12] W (fun e w' => e = .returned (.int .i64 4) ∧ W = w')) := Li (fun W => by
   have h := treeKids_any 12 W
   have e : tkK 12 = 4 := by decide
   rw [e] at h
   exact h)
 have HU0 := Li hu0; have HK0 := Li hK0; have HE0 := Li E0; have HO := Li ho
 have HIH := Li IH; have HIP := Li IHP; have HXA := Li hxa; have HPB := Li hpb; have HTX := Li htx; have HVR := Li hvr
 clear hu0 E0 hK0 hO0 hb ho IH IHP hxa hpb htx hvr
 have hm : a.length ≤ sc ∧ sc ≤ maxLen := by
   obtain ⟨_, _, e, h1, h2, _⟩ := HXA.out.form
   simp only [Value.slice.injEq, true_and] at e
   rw [e.2]; exact ⟨h1, h2⟩
 unfold maxLen at hm
 obtain ⟨hm1, hm2⟩ := hm
 subst hW0
 go_enter Tryz.func26, Tryz.ntmps26
 go_wp2_with (go_at_call 29; refine (KK.out _).mono ?_; rintro e w' ⟨rfl, rfl⟩)
 refine TK.out.mono ?_
 rintro e w1 ⟨y, l1, rfl, hb1, hu1, hl11, hl12, hok1⟩
 have HK1 := Li hb1
 have HU1 := Li (HU0.out.trans hu1)
 have hE1 := HE0.out.up hu1 (by simp only [ne_eq, Option.some.injEq]; exact hne)
 have f0 := hE1.cell 0 (by simp)
 have f1 := hE1.cell 1 (by simp)
 have f2 := hE1.cell 2 (by simp)
 have f3 := hE1.cell 3 (by simp)
 have f4 := hE1.cell 4 (by simp)
 have f5 := hE1.cell 5 (by simp)
 have f6 := hE1.cell 6 (by simp)
 have f7 := hE1.cell 7 (by simp)
 have f8 := hE1.cell 8 (by simp)
 have f9 := hE1.cell 9 (by simp)
 have f10 := hE1.cell 10 (by simp)
 have HE1 := Li hE1
 have hs1 : w.heap.size < w1.heap.size := hE1.lt
 clear hE1 hb1 hu1 TK HE0 HK0 HU0 KK
 cases y with
 | false =>
   have FIN : Hid ((FPost bf lf w (fun n => OkE (.mk 12 op tx v nm a b c d) ∧ (ctE (.mk 12 op tx v nm a b c d) : Int) ≤ n) (.returned (.bool false)) w1)) := Li ⟨false, l1, rfl, HK1.out, HU1.out, hl11, by omega, fun h => by simp at h⟩
   clear HK1 HU1 hok1 HE1
   go_wp2_with fail
   go_ret
   exact FIN.out
 | true =>
 obtain ⟨h01, hdp, h11⟩ := hok1 rfl
 have HCL := Li (treeClean_any 12 op v.kd v.ub tx v.tx v.nb ma ka sa pa v.ms.length mc v.kn kc a.length sc b.length pc w1)
 clear hok1
 go_wp2_with fail
 refine HCL.out.mono ?_
 rintro e w2 ⟨y, rfl, hcl, hb2⟩
 have HU2 := Li (HU1.out.trans (Up.of_below hb2))
 have HK2 := Li (HK1.out.below hb2 HK1.out.lt)
 have hE2 := HE1.out.below hb2 HE1.out.lt
 have HO2 := Li (HO.out.up HU2.out hbf hB)
 have hw2 : B ≤ w2.heap.size := Nat.le_trans hB HU2.out.size
 have d0 := hE2.cell 0 (by simp)
 have d1 := hE2.cell 1 (by simp)
 have d2 := hE2.cell 2 (by simp)
 have d3 := hE2.cell 3 (by simp)
 have d4 := hE2.cell 4 (by simp)
 have d5 := hE2.cell 5 (by simp)
 have d6 := hE2.cell 6 (by simp)
 have d7 := hE2.cell 7 (by simp)
 have d8 := hE2.cell 8 (by simp)
 have d9 := hE2.cell 9 (by simp)
 have d10 := hE2.cell 10 (by simp)
 have HE2 := Li hE2
 have hs2 : w.heap.size < w2.heap.size := hE2.lt
 have HCN := Li hcl
 clear hE2 hb2 HCL hcl HE1 HK1 HU1 f0 f1 f2 f3 f4 f5 f6 f7 f8 f9 f10
 cases y with
 | false =>
   have FIN : Hid ((FPost bf lf w (fun n => OkE (.mk 12 op tx v nm a b c d) ∧ (ctE (.mk 12 op tx v nm a b c d) : Int) ≤ n) (.returned (.bool false)) w2)) := Li ⟨false, l1, rfl, HK2.out, HU2.out, hl11, by omega, fun h => by simp at h⟩
   clear HK2 HU2 HE2
   go_wp2_with fail
   go_ret
   exact FIN.out
 | true =>
 have HCB : Hid (b = []) := Li (by rcases HCN.out rfl with h | h <;> first | omega | exact len0 h)
 by_cases hn : a.length ≠ 4
 · have FIN : Hid ((FPost bf lf w (fun n => OkE (.mk 12 op tx v nm a b c d) ∧ (ctE (.mk 12 op tx v nm a b c d) : Int) ≤ n) (.returned (.bool false)) w2)) := Li ⟨false, l1, rfl, HK2.out, HU2.out, hl11, by omega, fun h => by simp at h⟩
   have hn1 : ((a.length : Int) != 4) = true := by rw [bne_iff_ne]; omega
   clear HK2 HU2 HE2 hn
   go_wp2_with fail
   go_ret
   exact FIN.out
 have HN : Hid (a.length = 4) := Li (by omega)
 have hn1 : ((a.length : Int) != 4) = false := by rw [bne_eq_false_iff_eq]; omega
 clear hn
 have START : Hid (FRelO bf l1 w2 a (.int .i64 0) w2) := Li ⟨⟨0, l1, Nat.zero_le _, rfl, HK2, Li (Up.refl _ _), h01, Int.le_refl _, Li ⟨by simp, by simp⟩⟩, Li (fun h => absurd rfl h)⟩
 have HR : Hid (a ≠ [] → ∃ b o, sa = some ⟨b, o, none⟩ ∧ ∀ i t, a[i]? = some t → ExA R b (o + i * 11) t) := Li (by
   obtain ⟨_, _, e, _, _, hr⟩ := HXA.out.form
   simp only [Value.slice.injEq, true_and] at e
   rw [e.1]; exact hr)
 have hfb : bf < w2.heap.size := HK2.out.lt
 go_wp2_with fail
 clear hn1
 go_loopw [114] (FRelO bf l1 w2 a) (fun i _ => a.length - (intOf i).toNat)
 case atStart => exact START.out
 case round =>
   obtain ⟨⟨k, lk, hk, rfl, HBK, HUP, hk0, hkl, HOK⟩, HFST⟩ := hrel
   clear START
   by_cases hlt : k < a.length
   · obtain ⟨t, ht⟩ : ∃ t, a[k]? = some t := ⟨_, List.getElem?_eq_getElem hlt⟩
     have hwr : Old R B wr := HO.out.up (HU2.out.trans HUP.out) hbf hB
     obtain ⟨b3, o3, rfl, hx⟩ := HR.out (by intro h; rw [h] at hlt; simp at hlt)
     obtain ⟨kd', op', tx', v', nm', ca', cb', cc', cd', ma', mc', ka', kc', sa', sc', pa', pc', et', hxv', hx', hbB', q0, q1, q2, q3, q4, q5, q6, q7, q8, q9, q10⟩ := (hx k t ht).cells hwr
     have hsz : B ≤ wr.heap.size := Nat.le_trans hw2 HUP.out.size
     obtain ⟨W3, hW3⟩ : ∃ W3, W3 = wr.alloc (.cells #[.int .i64 kd', .int .i64 op', .string tx', .int .i64 v'.kd, .bool v'.nb, .slice ma' v'.ms.length mc', .int .u64 v'.ub, .string v'.tx, .slice ka' v'.kn kc', .slice sa' ca'.length sc', .slice pa' cb'.length pc'] 75) := ⟨_, rfl⟩
     have hu3 : Up (some bf) wr W3 := by rw [hW3]; exact (Up.refl (some bf) wr).alloc _
     have E3 : Blk W3 wr.heap.size 75 [.int .i64 kd', .int .i64 op', .string tx', .int .i64 v'.kd, .bool v'.nb, .slice ma' v'.ms.length mc', .int .u64 v'.ub, .string v'.tx, .slice ka' v'.kn kc', .slice sa' ca'.length sc', .slice pa' cb'.length pc'] := by rw [hW3]; exact Blk.new wr _ _
     have hW3s : W3.heap.size = wr.heap.size + 1 := by rw [hW3]; simp
     have hbl3 := HBK.out.lt
     have hK3 : Blk W3 bf 37 [.int .i64 lk] := by rw [hW3]; exact HBK.out.alloc _
     have hO3 : Old R B W3 := hwr.up hu3 hbf hsz
     have hne3 : wr.heap.size ≠ bf := by omega
     have HT := Li ht
     have HET := Li et'
     have HXV := Li hxv'
     have HU3 := Li hu3
     have HE3 := Li E3
     have HK3 := Li hK3
     have HO3 := Li hO3
     have HCL3 := Li (treeClean_any kd' op' v'.kd v'.ub tx' v'.tx v'.nb ma' ka' sa' pa' v'.ms.length mc' v'.kn kc' ca'.length sc' cb'.length pc' W3)
     clear hu3 E3 hK3 hO3 ht et' hxv' hx' hx hwr
     subst hW3
     by_cases hk00 : k = 0
     · have hkz : decide (0 < k) = false := decide_eq_false (by omega)
       have hkz' : ¬ (0 < k) := by omega
       clear hk00 HCL3
       have HC := Li ((HIH.out t (List.mem_of_getElem? HT.out)).1 _ (deep + 1) lk _ HXV.out HO3.out (by omega) hbf HK3.out hk0 (by omega) (by omega) (by omega))
       go_wp2_with fail
       refine HC.out.mono ?_
       rintro e w5 ⟨y, l5, rfl, hb5, hu5, hl51, hl52, hok5⟩
       cases y with
       | false =>
         have FIN : Hid ((FPost bf lf w (fun n => OkE (.mk 12 op tx v nm a b c d) ∧ (ctE (.mk 12 op tx v nm a b c d) : Int) ≤ n) (.returned (.bool false)) w5)) := Li ⟨false, l5, rfl, hb5, HU2.out.trans (HUP.out.trans (HU3.out.trans hu5)), hl51, by omega, fun h => by simp at h⟩
         clear hb5 hu5 hok5 HC
         go_wp2_with fail
         go_ret
         exact FIN.out
       | true =>
         obtain ⟨h05, hP5, hC5⟩ := hok5 rfl
         have FIN : Hid (FRelO bf l1 w2 a (.int .i64 ((k : Int) + 1)) w5) := Li ⟨FRel.step HT.out HUP.out hkl HOK.out hb5 (HU3.out.trans hu5) h05 hl52 (.expr _ hP5) (by rw [ctEs_append]; simp only [ctEs_cons, ctEs_nil]; omega), Li (FRelO.first HFST.out HT.out (fun _ => hP5))⟩
         clear hb5 hu5 hok5 HC hP5 hC5
         go_wp2_with fail
         go_roundw
         case rel => first | exact FIN.out | ((repeat apply Exists.intro); exact ⟨FIN.out, rfl⟩)
         case measure => simp [intOf]; omega
     have hkp : 0 < k := by omega
     have hkz : decide (0 < k) = true := decide_eq_true hkp
     clear hk00
     by_cases hk0' : kd' = 0
     · subst hk0'
       go_wp2_with fail
       refine HCL3.out.mono ?_
       rintro e w4 ⟨y, rfl, hcl, hb4⟩
       have hE4 := HE3.out.below hb4 HE3.out.lt
       have HK4 := Li (HK3.out.below hb4 HK3.out.lt)
       have HU4 := Li (HU3.out.trans (Up.of_below hb4))
       have r0 := hE4.cell 0 (by simp)
       have r1 := hE4.cell 1 (by simp)
       have r2 := hE4.cell 2 (by simp)
       have r3 := hE4.cell 3 (by simp)
       have r4 := hE4.cell 4 (by simp)
       have r5 := hE4.cell 5 (by simp)
       have r6 := hE4.cell 6 (by simp)
       have r7 := hE4.cell 7 (by simp)
       have r8 := hE4.cell 8 (by simp)
       have r9 := hE4.cell 9 (by simp)
       have r10 := hE4.cell 10 (by simp)
       have hs4 := hE4.lt
       have HCN := Li hcl
       have HO4 := Li (HO.out.up (HU2.out.trans (HUP.out.trans HU4.out)) hbf hB)
       have hw4 : B ≤ w4.heap.size := by omega
       clear hE4 hb4 HCL3 hcl HE3 HK3 HU3
       cases y with
       | false =>
         have HC := Li ((HIH.out t (List.mem_of_getElem? HT.out)).1 _ (deep + 1) lk _ HXV.out HO4.out (by omega) hbf HK4.out hk0 (by omega) (by omega) (by omega))
         go_wp2_with fail
         refine HC.out.mono ?_
         rintro e w5 ⟨y, l5, rfl, hb5, hu5, hl51, hl52, hok5⟩
         cases y with
         | false =>
           have FIN : Hid ((FPost bf lf w (fun n => OkE (.mk 12 op tx v nm a b c d) ∧ (ctE (.mk 12 op tx v nm a b c d) : Int) ≤ n) (.returned (.bool false)) w5)) := Li ⟨false, l5, rfl, hb5, HU2.out.trans (HUP.out.trans (HU4.out.trans hu5)), hl51, by omega, fun h => by simp at h⟩
           clear hb5 hu5 hok5 HC
           go_wp2_with fail
           go_ret
           exact FIN.out
         | true =>
           obtain ⟨h05, hP5, hC5⟩ := hok5 rfl
           have FIN : Hid (FRelO bf l1 w2 a (.int .i64 ((k : Int) + 1)) w5) := Li ⟨FRel.step HT.out HUP.out hkl HOK.out hb5 (HU4.out.trans hu5) h05 hl52 (.expr _ hP5) (by rw [ctEs_append]; simp only [ctEs_cons, ctEs_nil]; omega), Li (FRelO.first HFST.out HT.out (fun _ => hP5))⟩
           clear hb5 hu5 hok5 HC hP5 hC5
           go_wp2_with fail
           go_roundw
           case rel => first | exact FIN.out | ((repeat apply Exists.intro); exact ⟨FIN.out, rfl⟩)
           case measure => simp [intOf]; omega
       | true =>
       by_cases hn : ca'.length = 0
       · have FIN : Hid (FRelO bf l1 w2 a (.int .i64 ((k : Int) + 1)) w4) := Li ⟨FRel.step HT.out HUP.out hkl HOK.out HK4.out HU4.out hk0 (Int.le_refl _) (by
             rw [HET.out, len0 hn, len0 (l := cb') (by rcases HCN.out rfl with h | h <;> omega)]; exact .none _ _ _ _ _ _) (by
             rw [ctEs_append, HET.out, len0 hn, len0 (l := cb') (by rcases HCN.out rfl with h | h <;> omega)]; simp [ctE_mk]), Li (FRelO.first HFST.out HT.out (fun h => by omega))⟩
         have hn1 : ((ca'.length : Int) == 0) = true := by rw [beq_iff_eq]; omega
         clear hn
         go_wp2_with fail
         go_roundw
         case rel => first | exact FIN.out | ((repeat apply Exists.intro); exact ⟨FIN.out, rfl⟩)
         case measure => simp [intOf]; omega
       · have hn1 : ((ca'.length : Int) == 0) = false := by rw [beq_eq_false_iff_ne]; omega
         clear hn
         have HC := Li ((HIH.out t (List.mem_of_getElem? HT.out)).1 _ (deep + 1) lk _ HXV.out HO4.out (by omega) hbf HK4.out hk0 (by omega) (by omega) (by omega))
         go_wp2_with fail
         refine HC.out.mono ?_
         rintro e w5 ⟨y, l5, rfl, hb5, hu5, hl51, hl52, hok5⟩
         cases y with
         | false =>
           have FIN : Hid ((FPost bf lf w (fun n => OkE (.mk 12 op tx v nm a b c d) ∧ (ctE (.mk 12 op tx v nm a b c d) : Int) ≤ n) (.returned (.bool false)) w5)) := Li ⟨false, l5, rfl, hb5, HU2.out.trans (HUP.out.trans (HU4.out.trans hu5)), hl51, by omega, fun h => by simp at h⟩
           clear hb5 hu5 hok5 HC
           go_wp2_with fail
           go_ret
           exact FIN.out
         | true =>
           obtain ⟨h05, hP5, hC5⟩ := hok5 rfl
           have FIN : Hid (FRelO bf l1 w2 a (.int .i64 ((k : Int) + 1)) w5) := Li ⟨FRel.step HT.out HUP.out hkl HOK.out hb5 (HU4.out.trans hu5) h05 hl52 (.expr _ hP5) (by rw [ctEs_append]; simp only [ctEs_cons, ctEs_nil]; omega), Li (FRelO.first HFST.out HT.out (fun _ => hP5))⟩
           clear hb5 hu5 hok5 HC hP5 hC5
           go_wp2_with fail
           go_roundw
           case rel => first | exact FIN.out | ((repeat apply Exists.intro); exact ⟨FIN.out, rfl⟩)
           case measure => simp [intOf]; omega
     · have hk1' : (kd' == 0) = false := by rw [beq_eq_false_iff_ne]; exact hk0'
       clear HCL3
       have HC := Li ((HIH.out t (List.mem_of_getElem? HT.out)).1 _ (deep + 1) lk _ HXV.out HO3.out (by omega) hbf HK3.out hk0 (by omega) (by omega) (by omega))
       go_wp2_with fail
       refine HC.out.mono ?_
       rintro e w5 ⟨y, l5, rfl, hb5, hu5, hl51, hl52, hok5⟩
       cases y with
       | false =>
         have FIN : Hid ((FPost bf lf w (fun n => OkE (.mk 12 op tx v nm a b c d) ∧ (ctE (.mk 12 op tx v nm a b c d) : Int) ≤ n) (.returned (.bool false)) w5)) := Li ⟨false, l5, rfl, hb5, HU2.out.trans (HUP.out.trans (HU3.out.trans hu5)), hl51, by omega, fun h => by simp at h⟩
         clear hb5 hu5 hok5 HC
         go_wp2_with fail
         go_ret
         exact FIN.out
       | true =>
         obtain ⟨h05, hP5, hC5⟩ := hok5 rfl
         have FIN : Hid (FRelO bf l1 w2 a (.int .i64 ((k : Int) + 1)) w5) := Li ⟨FRel.step HT.out HUP.out hkl HOK.out hb5 (HU3.out.trans hu5) h05 hl52 (.expr _ hP5) (by rw [ctEs_append]; simp only [ctEs_cons, ctEs_nil]; omega), Li (FRelO.first HFST.out HT.out (fun _ => hP5))⟩
         clear hb5 hu5 hok5 HC hP5 hC5
         go_wp2_with fail
         go_roundw
         case rel => first | exact FIN.out | ((repeat apply Exists.intro); exact ⟨FIN.out, rfl⟩)
         case measure => simp [intOf]; omega
   · obtain rfl : k = a.length := by omega
     have FIN : Hid ((FPost bf lf w (fun n => OkE (.mk 12 op tx v nm a b c d) ∧ (ctE (.mk 12 op tx v nm a b c d) : Int) ≤ n) (.returned (.bool true)) wr)) := Li ⟨true, lk, rfl, HBK.out, HU2.out.trans HUP.out, by omega, by omega, fun _ => ⟨hk0, by
       obtain ⟨x, lo, hi, st, e⟩ := len4 HN.out
       have h4 := HOK.out
       rw [List.take_of_length_le (Nat.le_refl _)] at h4
       have h5 := HFST.out (by simp only [ne_eq, Value.int.injEq, true_and]; rw [HN.out]; omega)
       rw [HCB.out, e] at *
       exact .slice _ _ _ _ _ _ _ _ _ _ (h5 x rfl) (h4.1 lo (by simp)) (h4.1 hi (by simp)) (h4.1 st (by simp)), by
       have h4 := HOK.out
       rw [List.take_of_length_le (Nat.le_refl _)] at h4
       rw [ctE_mk, HCB.out]
       have := h4.2
       simp; omega⟩⟩
     clear HBK HUP HOK HFST
     go_wp2_with fail
     go_ret
     exact FIN.out
set_option maxHeartbeats 6400000 in
theorem expr_other {R : Nat → Nat → Option Value} {B bf : Nat} (kd : Int) (op : Int) (tx : ByteArray) (v : VV) (nm : List ByteArray) (a b c d : List Tr) (ma ka sa pa : Option Addr) (mc kc sc pc : Nat) (deep lf : Int) (w : World) (IH : ∀ s ∈ a, FEx R B bf s ∧ ∀ k ∈ s.a, FEx R B bf k) (IHP : ∀ p ∈ b, ∀ k ∈ p.a, FEx R B bf k)
   (hvr : VaR R v [.int .i64 v.kd, .bool v.nb, .slice ma v.ms.length mc, .int .u64 v.ub, .string v.tx, .slice ka v.kn kc]) (hxa : ExL R a (.slice sa a.length sc)) (hpb : PaL R b (.slice pa b.length pc)) (htx : tx.size ≤ maxLen) (ho : Old R B w) (hB : B ≤ w.heap.size) (hbf : B ≤ bf) (hb : Blk w bf 37 [.int .i64 lf]) (h0 : 0 ≤ lf) (h300 : lf ≤ 300) (hd : 0 ≤ deep) (hd2 : deep ≤ 25) (z1 : ¬ kd = 1) (z2 : ¬ kd = 2) (z3 : ¬ kd = 3) (z4 : ¬ kd = 4) (z5 : ¬ kd = 5) (z6 : ¬ kd = 6) (z7 : ¬ kd = 7) (z8 : ¬ kd = 8) (z9 : ¬ kd = 9) (z10 : ¬ kd = 10) (z11 : ¬ kd = 11) (z12 : ¬ kd = 12) (z13 : ¬ kd = 13) (z14 : ¬ kd = 14) (z18 : ¬ kd = 18) (z19 : ¬ kd = 19) (z20 : ¬ kd = 20) (z23 : ¬ kd = 23) :
   Calls Tryz.prog 26 #[.pointer (some ⟨bf, 0, none⟩), .agg #[.int .i64 kd, .int .i64 op, .string tx, .int .i64 v.kd, .bool v.nb, .slice ma v.ms.length mc, .int .u64 v.ub, .string v.tx, .slice ka v.kn kc, .slice sa a.length sc, .slice pa b.length pc], .int .i64 deep] w (FPost bf lf w (fun n => OkE (.mk kd op tx v nm a b c d) ∧ (ctE (.mk kd op tx v nm a b c d) : Int) ≤ n)) := by
 obtain ⟨W0, hW0⟩ : ∃ W0, W0 = w.alloc (.cells #[.int .i64 kd, .int .i64 op, .string tx, .int .i64 v.kd, .bool v.nb, .slice ma v.ms.length mc, .int .u64 v.ub, .string v.tx, .slice ka v.kn kc, .slice sa a.length sc, .slice pa b.length pc] 75) := ⟨_, rfl⟩
 have hu0 : Up (some bf) w W0 := by rw [hW0]; exact (Up.refl (some bf) w).alloc _
 have E0 : Blk W0 w.heap.size 75 [.int .i64 kd, .int .i64 op, .string tx, .int .i64 v.kd, .bool v.nb, .slice ma v.ms.length mc, .int .u64 v.ub, .string v.tx, .slice ka v.kn kc, .slice sa a.length sc, .slice pa b.length pc] := by rw [hW0]; exact Blk.new w _ _
 have hbl := hb.lt
 have hK0 : Blk W0 bf 37 [.int .i64 lf] := by rw [hW0]; exact hb.alloc _
 have hW0s : W0.heap.size = w.heap.size + 1 := by rw [hW0]; simp
 have hO0 : Old R B W0 := ho.up hu0 hbf hB
 have hne : w.heap.size ≠ bf := by omega
 have TK := Li (takes_any bf lf deep W0 hK0 h0 h300 hd (by omega))
 have KK : Hid (∀ W, Calls Tryz.prog 29 #[.int .i64 kd] W (fun e w' => e = .returned (.int .i64 (-1)) ∧ W = w')) := Li (fun W => by
   have h := treeKids_any kd W
   have e : tkK kd = (-1) := by unfold tkK; repeat rw [if_neg (by omega)]
   rw [e] at h
   exact h)
 have HU0 := Li hu0; have HK0 := Li hK0; have HE0 := Li E0; have HO := Li ho
 have HIH := Li IH; have HIP := Li IHP; have HXA := Li hxa; have HPB := Li hpb; have HTX := Li htx; have HVR := Li hvr
 clear hu0 E0 hK0 hO0 hb ho IH IHP hxa hpb htx hvr
 have hm : a.length ≤ sc ∧ sc ≤ maxLen := by
   obtain ⟨_, _, e, h1, h2, _⟩ := HXA.out.form
   simp only [Value.slice.injEq, true_and] at e
   rw [e.2]; exact ⟨h1, h2⟩
 unfold maxLen at hm
 obtain ⟨hm1, hm2⟩ := hm
 subst hW0
 go_enter Tryz.func26, Tryz.ntmps26
 go_wp2_with (go_at_call 29; refine (KK.out _).mono ?_; rintro e w' ⟨rfl, rfl⟩)
 refine TK.out.mono ?_
 rintro e w1 ⟨y, l1, rfl, hb1, hu1, hl11, hl12, hok1⟩
 have HK1 := Li hb1
 have HU1 := Li (HU0.out.trans hu1)
 have hE1 := HE0.out.up hu1 (by simp only [ne_eq, Option.some.injEq]; exact hne)
 have f0 := hE1.cell 0 (by simp)
 have f1 := hE1.cell 1 (by simp)
 have f2 := hE1.cell 2 (by simp)
 have f3 := hE1.cell 3 (by simp)
 have f4 := hE1.cell 4 (by simp)
 have f5 := hE1.cell 5 (by simp)
 have f6 := hE1.cell 6 (by simp)
 have f7 := hE1.cell 7 (by simp)
 have f8 := hE1.cell 8 (by simp)
 have f9 := hE1.cell 9 (by simp)
 have f10 := hE1.cell 10 (by simp)
 have HE1 := Li hE1
 have hs1 : w.heap.size < w1.heap.size := hE1.lt
 clear hE1 hb1 hu1 TK HE0 HK0 HU0 KK
 cases y with
 | false =>
   have FIN : Hid ((FPost bf lf w (fun n => OkE (.mk kd op tx v nm a b c d) ∧ (ctE (.mk kd op tx v nm a b c d) : Int) ≤ n) (.returned (.bool false)) w1)) := Li ⟨false, l1, rfl, HK1.out, HU1.out, hl11, by omega, fun h => by simp at h⟩
   clear HK1 HU1 hok1 HE1
   go_wp2_with fail
   go_ret
   exact FIN.out
 | true =>
 obtain ⟨h01, hdp, h11⟩ := hok1 rfl
 have HCL := Li (treeClean_any kd op v.kd v.ub tx v.tx v.nb ma ka sa pa v.ms.length mc v.kn kc a.length sc b.length pc w1)
 clear hok1
 go_wp2_with fail
 refine HCL.out.mono ?_
 rintro e w2 ⟨y, rfl, hcl, hb2⟩
 have HU2 := Li (HU1.out.trans (Up.of_below hb2))
 have HK2 := Li (HK1.out.below hb2 HK1.out.lt)
 have hE2 := HE1.out.below hb2 HE1.out.lt
 have HO2 := Li (HO.out.up HU2.out hbf hB)
 have hw2 : B ≤ w2.heap.size := Nat.le_trans hB HU2.out.size
 have d0 := hE2.cell 0 (by simp)
 have d1 := hE2.cell 1 (by simp)
 have d2 := hE2.cell 2 (by simp)
 have d3 := hE2.cell 3 (by simp)
 have d4 := hE2.cell 4 (by simp)
 have d5 := hE2.cell 5 (by simp)
 have d6 := hE2.cell 6 (by simp)
 have d7 := hE2.cell 7 (by simp)
 have d8 := hE2.cell 8 (by simp)
 have d9 := hE2.cell 9 (by simp)
 have d10 := hE2.cell 10 (by simp)
 have HE2 := Li hE2
 have hs2 : w.heap.size < w2.heap.size := hE2.lt
 have HCN := Li hcl
 clear hE2 hb2 HCL hcl HE1 HK1 HU1 f0 f1 f2 f3 f4 f5 f6 f7 f8 f9 f10
 cases y with
 | false =>
   have FIN : Hid ((FPost bf lf w (fun n => OkE (.mk kd op tx v nm a b c d) ∧ (ctE (.mk kd op tx v nm a b c d) : Int) ≤ n) (.returned (.bool false)) w2)) := Li ⟨false, l1, rfl, HK2.out, HU2.out, hl11, by omega, fun h => by simp at h⟩
   clear HK2 HU2 HE2
   go_wp2_with fail
   go_ret
   exact FIN.out
 | true =>
 have FIN : Hid ((FPost bf lf w (fun n => OkE (.mk kd op tx v nm a b c d) ∧ (ctE (.mk kd op tx v nm a b c d) : Int) ≤ n) (.returned (.bool false)) w2)) := Li ⟨false, l1, rfl, HK2.out, HU2.out, by omega, by omega, fun h => by simp at h⟩
 clear HK2 HU2 HE2
 go_wp2_with fail
 go_ret
 exact FIN.out
theorem mem_a_lt {k t : Tr} (h : k ∈ t.a) : SizeOf.sizeOf k < SizeOf.sizeOf t := by
 cases t with
 | mk kd op tx v nm a b c d =>
   have := List.sizeOf_lt_of_mem (show k ∈ a from h)
   simp; omega
theorem mem_b_lt {k t : Tr} (h : k ∈ t.b) : SizeOf.sizeOf k < SizeOf.sizeOf t := by
 cases t with
 | mk kd op tx v nm a b c d =>
   have := List.sizeOf_lt_of_mem (show k ∈ b from h)
   simp; omega
theorem mem_c_lt {k t : Tr} (h : k ∈ t.c) : SizeOf.sizeOf k < SizeOf.sizeOf t := by
 cases t with
 | mk kd op tx v nm a b c d =>
   have := List.sizeOf_lt_of_mem (show k ∈ c from h)
   simp; omega
theorem mem_d_lt {k t : Tr} (h : k ∈ t.d) : SizeOf.sizeOf k < SizeOf.sizeOf t := by
 cases t with
 | mk kd op tx v nm a b c d =>
   have := List.sizeOf_lt_of_mem (show k ∈ d from h)
   simp; omega
theorem expr_upto (R : Nat → Nat → Option Value) (B bf : Nat) (n : Nat) : ∀ t : Tr, SizeOf.sizeOf t < n → FEx R B bf t := by
 induction n with
 | zero => intro t h; omega
 | succ n ih =>
   intro t ht cs deep lf w hx ho hB hbf hb h0 h300 hd hd2
   have IH : ∀ s ∈ t.a, FEx R B bf s ∧ ∀ k ∈ s.a, FEx R B bf k := fun s hs => ⟨ih s (by have := mem_a_lt hs; omega), fun k hk => ih k (by have := mem_a_lt hs; have := mem_a_lt hk; omega)⟩
   have IHP : ∀ p ∈ t.b, ∀ k ∈ p.a, FEx R B bf k := fun p hp k hk => ih k (by have := mem_b_lt hp; have := mem_a_lt hk; omega)
   obtain ⟨kd, op, tx, v, nm, a, b, c, d, ma, mc, ka, kc, sa, sc, pa, pc, rfl, rfl, hvr, hxa, hpb, hkr, hor, htx⟩ := hx.form
   by_cases z1 : kd = 1
   · subst z1
     exact expr_k1 op tx v nm a b c d ma ka sa pa mc kc sc pc deep lf w IH IHP hvr hxa hpb htx ho hB hbf hb h0 h300 hd hd2
   by_cases z2 : kd = 2
   · subst z2
     exact expr_k2 op tx v nm a b c d ma ka sa pa mc kc sc pc deep lf w IH IHP hvr hxa hpb htx ho hB hbf hb h0 h300 hd hd2
   by_cases z3 : kd = 3
   · subst z3
     exact expr_k3 op tx v nm a b c d ma ka sa pa mc kc sc pc deep lf w IH IHP hvr hxa hpb htx ho hB hbf hb h0 h300 hd hd2
   by_cases z4 : kd = 4
   · subst z4
     exact expr_k4 op tx v nm a b c d ma ka sa pa mc kc sc pc deep lf w IH IHP hvr hxa hpb htx ho hB hbf hb h0 h300 hd hd2
   by_cases z5 : kd = 5
   · subst z5
     exact expr_k5 op tx v nm a b c d ma ka sa pa mc kc sc pc deep lf w IH IHP hvr hxa hpb htx ho hB hbf hb h0 h300 hd hd2
   by_cases z6 : kd = 6
   · subst z6
     exact expr_k6 op tx v nm a b c d ma ka sa pa mc kc sc pc deep lf w IH IHP hvr hxa hpb htx ho hB hbf hb h0 h300 hd hd2
   by_cases z7 : kd = 7
   · subst z7
     exact expr_k7 op tx v nm a b c d ma ka sa pa mc kc sc pc deep lf w IH IHP hvr hxa hpb htx ho hB hbf hb h0 h300 hd hd2
   by_cases z8 : kd = 8
   · subst z8
     exact expr_k8 op tx v nm a b c d ma ka sa pa mc kc sc pc deep lf w IH IHP hvr hxa hpb htx ho hB hbf hb h0 h300 hd hd2
   by_cases z9 : kd = 9
   · subst z9
     exact expr_k9 op tx v nm a b c d ma ka sa pa mc kc sc pc deep lf w IH IHP hvr hxa hpb htx ho hB hbf hb h0 h300 hd hd2
   by_cases z10 : kd = 10
   · subst z10
     exact expr_k10 op tx v nm a b c d ma ka sa pa mc kc sc pc deep lf w IH IHP hvr hxa hpb htx ho hB hbf hb h0 h300 hd hd2
   by_cases z11 : kd = 11
   · subst z11
     exact expr_k11 op tx v nm a b c d ma ka sa pa mc kc sc pc deep lf w IH IHP hvr hxa hpb htx ho hB hbf hb h0 h300 hd hd2
   by_cases z12 : kd = 12
   · subst z12
     exact expr_k12 op tx v nm a b c d ma ka sa pa mc kc sc pc deep lf w IH IHP hvr hxa hpb htx ho hB hbf hb h0 h300 hd hd2
   by_cases z13 : kd = 13
   · subst z13
     exact expr_k13 op tx v nm a b c d ma ka sa pa mc kc sc pc deep lf w IH IHP hvr hxa hpb htx ho hB hbf hb h0 h300 hd hd2
   by_cases z14 : kd = 14
   · subst z14
     exact expr_k14 op tx v nm a b c d ma ka sa pa mc kc sc pc deep lf w IH IHP hvr hxa hpb htx ho hB hbf hb h0 h300 hd hd2
   by_cases z18 : kd = 18
   · subst z18
     exact expr_k18 op tx v nm a b c d ma ka sa pa mc kc sc pc deep lf w IH IHP hvr hxa hpb htx ho hB hbf hb h0 h300 hd hd2
   by_cases z19 : kd = 19
   · subst z19
     exact expr_k19 op tx v nm a b c d ma ka sa pa mc kc sc pc deep lf w IH IHP hvr hxa hpb htx ho hB hbf hb h0 h300 hd hd2
   by_cases z20 : kd = 20
   · subst z20
     exact expr_k20 op tx v nm a b c d ma ka sa pa mc kc sc pc deep lf w IH IHP hvr hxa hpb htx ho hB hbf hb h0 h300 hd hd2
   by_cases z23 : kd = 23
   · subst z23
     exact expr_k23 op tx v nm a b c d ma ka sa pa mc kc sc pc deep lf w IH IHP hvr hxa hpb htx ho hB hbf hb h0 h300 hd hd2
   exact expr_other kd op tx v nm a b c d ma ka sa pa mc kc sc pc deep lf w IH IHP hvr hxa hpb htx ho hB hbf hb h0 h300 hd hd2 z1 z2 z3 z4 z5 z6 z7 z8 z9 z10 z11 z12 z13 z14 z18 z19 z20 z23
theorem expr_any (R : Nat → Nat → Option Value) (B bf : Nat) (t : Tr) : FEx R B bf t := expr_upto R B bf _ t (Nat.lt_succ_self _)
def FSt (R : Nat → Nat → Option Value) (B bf : Nat) (t : Tr) : Prop := ∀ (cs : List Value) (deep lf : Int) (w : World), StV R t cs → Old R B w → B ≤ w.heap.size → B ≤ bf → Blk w bf 37 [.int .i64 lf] → 0 ≤ lf → lf ≤ 300 → 0 ≤ deep → deep ≤ 24 →
 Calls Tryz.prog 15 #[.pointer (some ⟨bf, 0, none⟩), .agg cs.toArray, .int .i64 deep] w (FPost bf lf w (fun n => OkS t ∧ (ctS t : Int) ≤ n + 1))
set_option maxHeartbeats 6400000 in
theorem stmts_of {R : Nat → Nat → Option Value} {B bf : Nat} {l : List Tr} (HE : ∀ t ∈ l, FSt R B bf t) (a : Option Addr) (c : Nat) (deep lf : Int) (w : World) (hl : StL R l (.slice a l.length c)) (ho : Old R B w) (hB : B ≤ w.heap.size) (hbf : B ≤ bf) (hb : Blk w bf 37 [.int .i64 lf]) (h0 : 0 ≤ lf) (h300 : lf ≤ 300) (hd : 0 ≤ deep) (hd2 : deep ≤ 25) :
   Calls Tryz.prog 10 #[.pointer (some ⟨bf, 0, none⟩), .slice a l.length c, .int .i64 deep] w (FPost bf lf w (fun n => (∀ t ∈ l, OkS t) ∧ (ctSs l : Int) ≤ n)) := by
 obtain ⟨a', c', e, hc, hm, hrow⟩ := hl.form
 simp only [Value.slice.injEq, true_and] at e
 obtain ⟨rfl, rfl⟩ := e
 unfold maxLen at hm
 have START : Hid (FRel bf lf w l OkS ctSs (.int .i64 0) w) := Li ⟨0, lf, Nat.zero_le _, rfl, Li hb, Li (Up.refl _ _), h0, Int.le_refl _, Li ⟨by simp, by simp⟩⟩
 have HEH := Li HE; have HO := Li ho; have HR := Li hrow
 clear HE hb hl ho hrow
 go_enter Tryz.func10, Tryz.ntmps10
 go_wp2_with fail
 go_loopw [11] (FRel bf lf w l OkS ctSs) (fun i _ => l.length - (intOf i).toNat)
 case atStart => exact START.out
 case round =>
   obtain ⟨k, lk, hk, rfl, HBK, HUP, hk0, hkl, HOK⟩ := hrel
   clear START
   by_cases hlt : k < l.length
   · obtain ⟨t, ht⟩ : ∃ t, l[k]? = some t := ⟨_, List.getElem?_eq_getElem hlt⟩
     have hwr : Old R B wr := HO.out.up HUP.out hbf hB
     obtain ⟨b, o, rfl, hx⟩ := HR.out (by intro h; rw [h] at hlt; simp at hlt)
     obtain ⟨kd, op, tx, v, nm, ca, cb, cc, cd, na, nc, sa, sc, pa, pc, ba, bc, ea, ec, et, hxv, hall, hbB, c0, c1, c2, c3, c4, c5, c6, c7⟩ := (hx k t ht).cells hwr
     have hsz : B ≤ wr.heap.size := Nat.le_trans hB HUP.out.size
     obtain ⟨W0, hW0⟩ : ∃ W0, W0 = wr.alloc (.cells #[.int .i64 kd, .int .i64 op, .string tx, .slice na nm.length nc, .slice sa ca.length sc, .slice pa cb.length pc, .slice ba cc.length bc, .slice ea cd.length ec] 42) := ⟨_, rfl⟩
     have hu0 : Up (some bf) wr W0 := by rw [hW0]; exact (Up.refl (some bf) wr).alloc _
     have E0 : Blk W0 wr.heap.size 42 [.int .i64 kd, .int .i64 op, .string tx, .slice na nm.length nc, .slice sa ca.length sc, .slice pa cb.length pc, .slice ba cc.length bc, .slice ea cd.length ec] := by rw [hW0]; exact Blk.new wr _ _
     have hbl := HBK.out.lt
     have hK0 : Blk W0 bf 37 [.int .i64 lk] := by rw [hW0]; exact HBK.out.alloc _
     have hne : wr.heap.size ≠ bf := by omega
     have TK := Li (takes_any bf lk deep W0 hK0 hk0 (by omega) hd (by omega))
     have HU0 := Li hu0
     have HE0 := Li E0
     have HT := Li ht
     have HXV := Li hxv
     clear hxv hwr ht et hx hall hu0 E0 hK0
     subst hW0
     go_wp2_with fail
     refine TK.out.mono ?_
     rintro e w1 ⟨y, l1, rfl, hb1, hu1, hl11, hl12, hok1⟩
     have HU1 := Li (HU0.out.trans hu1)
     have hE1 := HE0.out.up hu1 (by simp only [ne_eq, Option.some.injEq]; exact hne)
     have HO1 := Li (HO.out.up (HUP.out.trans HU1.out) hbf hB)
     have f0 := hE1.cell 0 (by simp)
     have f1 := hE1.cell 1 (by simp)
     have f2 := hE1.cell 2 (by simp)
     have f3 := hE1.cell 3 (by simp)
     have f4 := hE1.cell 4 (by simp)
     have f5 := hE1.cell 5 (by simp)
     have f6 := hE1.cell 6 (by simp)
     have f7 := hE1.cell 7 (by simp)
     have hs1 := hE1.lt
     clear hE1 hu1 TK HU0 HE0
     cases y with
     | false =>
       have FIN : Hid (FPost bf lf w (fun n => (∀ t ∈ l, OkS t) ∧ (ctSs l : Int) ≤ n) (.returned (.bool false)) w1) := Li (FPost.no HUP.out hkl hb1 HU1.out hl11 hl12)
       clear hb1 hok1 HU1
       go_wp2_with fail
       go_ret
       exact FIN.out
     | true =>
     obtain ⟨h01, hdp, h11⟩ := hok1 rfl
     have HC := Li (HEH.out t (List.mem_of_getElem? HT.out) _ deep l1 w1 HXV.out HO1.out (by omega) hbf hb1 h01 (by omega) hd hdp)
     clear hb1 hok1
     go_wp2_with fail
     refine HC.out.mono ?_
     rintro e w2 ⟨y, l2, rfl, hb2, hu2, hl21, hl22, hok2⟩
     cases y with
     | false =>
       have FIN : Hid (FPost bf lf w (fun n => (∀ t ∈ l, OkS t) ∧ (ctSs l : Int) ≤ n) (.returned (.bool false)) w2) := Li (FPost.no HUP.out hkl hb2 (HU1.out.trans hu2) hl21 (by omega))
       clear hb2 hu2 hok2 HC
       go_wp2_with fail
       go_ret
       exact FIN.out
     | true =>
       obtain ⟨h02, hP, hC⟩ := hok2 rfl
       have FIN : Hid (FRel bf lf w l OkS ctSs (.int .i64 ((k : Int) + 1)) w2) := Li (FRel.step HT.out HUP.out hkl HOK.out hb2 (HU1.out.trans hu2) h02 (by omega) hP (by rw [ctSs_append]; simp only [ctSs_cons, ctSs_nil]; omega))
       clear hb2 hu2 hok2 HC hP hC
       go_wp2_with fail
       go_roundw
       case rel => first | exact FIN.out | ((repeat apply Exists.intro); exact ⟨FIN.out, rfl⟩)
       case measure => simp [intOf]; omega
   · obtain rfl : k = l.length := by omega
     have FIN : Hid (FPost bf lf w (fun n => (∀ t ∈ l, OkS t) ∧ (ctSs l : Int) ≤ n) (.returned (.bool true)) wr) := Li ⟨true, lk, rfl, HBK.out, HUP.out, by omega, hkl, fun _ => ⟨hk0, by have := HOK.out; rwa [List.take_of_length_le (Nat.le_refl _)] at this⟩⟩
     clear HBK HUP HOK
     go_wp2_with fail
     go_ret
     exact FIN.out
end Go.Proofs.YtoojgjhfmmohbaaGreat
