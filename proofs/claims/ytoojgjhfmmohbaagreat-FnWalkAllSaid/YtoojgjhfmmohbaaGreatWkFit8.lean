/- treeFitter.expr: it answers true only at an expression that a text could be; one theorem a kind (printed by genwkexpr.py). -/
import Derived.Test.YtoojgjhfmmohbaaGreatMFitb
namespace Go.Proofs.YtoojgjhfmmohbaaGreat
open Go.RowKit
set_option linter.unusedVariables false
set_option linter.unusedSimpArgs false
set_option maxRecDepth 100000
set_option maxHeartbeats 6400000 in
theorem expr_k1 {R : Nat → Nat → Option Value} {B bf : Nat} (op : Int) (tx : ByteArray) (v : VV) (nm : List ByteArray) (a b c d : List Tr) (ma ka sa pa : Option Addr) (mc kc sc pc : Nat) (deep lf : Int) (w : World) (IH : ∀ s ∈ a, FEx R B bf s ∧ ∀ k ∈ s.a, FEx R B bf k) (IHP : ∀ p ∈ b, ∀ k ∈ p.a, FEx R B bf k)
   (hvr : VaR R v [.int .i64 v.kd, .bool v.nb, .slice ma v.ms.length mc, .int .u64 v.ub, .string v.tx, .slice ka v.kn kc]) (hxa : ExL R a (.slice sa a.length sc)) (hpb : PaL R b (.slice pa b.length pc)) (htx : tx.size ≤ maxLen) (ho : Old R B w) (hB : B ≤ w.heap.size) (hbf : B ≤ bf) (hb : Blk w bf 37 [.int .i64 lf]) (h0 : 0 ≤ lf) (h300 : lf ≤ 300) (hd : 0 ≤ deep) (hd2 : deep ≤ 25) :
   Calls Tryz.prog 26 #[.pointer (some ⟨bf, 0, none⟩), .agg #[.int .i64 1, .int .i64 op, .string tx, .int .i64 v.kd, .bool v.nb, .slice ma v.ms.length mc, .int .u64 v.ub, .string v.tx, .slice ka v.kn kc, .slice sa a.length sc, .slice pa b.length pc], .int .i64 deep] w (FPost bf lf w (fun n => OkE (.mk 1 op tx v nm a b c d) ∧ (ctE (.mk 1 op tx v nm a b c d) : Int) ≤ n)) := by
 obtain ⟨W0, hW0⟩ : ∃ W0, W0 = w.alloc (.cells #[.int .i64 1, .int .i64 op, .string tx, .int .i64 v.kd, .bool v.nb, .slice ma v.ms.length mc, .int .u64 v.ub, .string v.tx, .slice ka v.kn kc, .slice sa a.length sc, .slice pa b.length pc] 75) := ⟨_, rfl⟩
 have hu0 : Up (some bf) w W0 := by rw [hW0]; exact (Up.refl (some bf) w).alloc _
 have E0 : Blk W0 w.heap.size 75 [.int .i64 1, .int .i64 op, .string tx, .int .i64 v.kd, .bool v.nb, .slice ma v.ms.length mc, .int .u64 v.ub, .string v.tx, .slice ka v.kn kc, .slice sa a.length sc, .slice pa b.length pc] := by rw [hW0]; exact Blk.new w _ _
 have hbl := hb.lt
 have hK0 : Blk W0 bf 37 [.int .i64 lf] := by rw [hW0]; exact hb.alloc _
 have hW0s : W0.heap.size = w.heap.size + 1 := by rw [hW0]; simp
 have hO0 : Old R B W0 := ho.up hu0 hbf hB
 have hne : w.heap.size ≠ bf := by omega
 have TK := Li (takes_any bf lf deep W0 hK0 h0 h300 hd (by omega))
 have KK : Hid (∀ W, Calls Tryz.prog 29 #[.int .i64 1] W (fun e w' => e = .returned (.int .i64 0) ∧ W = w')) := Li (fun W => by
   have h := treeKids_any 1 W
   have e : tkK 1 = 0 := by decide
   rw [e] at h
   exact h)
 have HU0 := Li hu0; have HK0 := Li hK0; have HE0 := Li E0; have HO := Li ho
 have HIH := Li IH; have HIP := Li IHP; have HXA := Li hxa; have HPB := Li hpb; have HTX := Li htx; have HVR := Li hvr
 clear hu0 E0 hK0 hO0 hb ho IH IHP hxa hpb htx hvr
 have hm : a.length ≤ sc ∧ sc ≤ maxLen := by
   obtain ⟨_, _, e, h1, h2, _⟩ := HXA.out.form
   simp only [Value.slice.injEq, true_and] at e
   rw [e.2]; exact ⟨h1, h2⟩
 unfold maxLen at hm
 obtain ⟨hm1, hm2⟩ := hm
 subst hW0
 go_enter Tryz.func26, Tryz.ntmps26
 go_wp2_with (go_at_call 29; refine (KK.out _).mono ?_; rintro e w' ⟨rfl, rfl⟩)
 refine TK.out.mono ?_
 rintro e w1 ⟨y, l1, rfl, hb1, hu1, hl11, hl12, hok1⟩
 have HK1 := Li hb1
 have HU1 := Li (HU0.out.trans hu1)
 have hE1 := HE0.out.up hu1 (by simp only [ne_eq, Option.some.injEq]; exact hne)
 have f0 := hE1.cell 0 (by simp)
 have f1 := hE1.cell 1 (by simp)
 have f2 := hE1.cell 2 (by simp)
 have f3 := hE1.cell 3 (by simp)
 have f4 := hE1.cell 4 (by simp)
 have f5 := hE1.cell 5 (by simp)
 have f6 := hE1.cell 6 (by simp)
 have f7 := hE1.cell 7 (by simp)
 have f8 := hE1.cell 8 (by simp)
 have f9 := hE1.cell 9 (by simp)
 have f10 := hE1.cell 10 (by simp)
 have HE1 := Li hE1
 have hs1 : w.heap.size < w1.heap.size := hE1.lt
 clear hE1 hb1 hu1 TK HE0 HK0 HU0 KK
 cases y with
 | false =>
   have FIN : Hid ((FPost bf lf w (fun n => OkE (.mk 1 op tx v nm a b c d) ∧ (ctE (.mk 1 op tx v nm a b c d) : Int) ≤ n) (.returned (.bool false)) w1)) := Li ⟨false, l1, rfl, HK1.out, HU1.out, hl11, by omega, fun h => by simp at h⟩
   clear HK1 HU1 hok1 HE1
   go_wp2_with fail
   go_ret
   exact FIN.out
 | true =>
 obtain ⟨h01, hdp, h11⟩ := hok1 rfl
 have HCL := Li (treeClean_any 1 op v.kd v.ub tx v.tx v.nb ma ka sa pa v.ms.length mc v.kn kc a.length sc b.length pc w1)
 clear hok1
 go_wp2_with fail
 refine HCL.out.mono ?_
 rintro e w2 ⟨y, rfl, hcl, hb2⟩
 have HU2 := Li (HU1.out.trans (Up.of_below hb2))
 have HK2 := Li (HK1.out.below hb2 HK1.out.lt)
 have hE2 := HE1.out.below hb2 HE1.out.lt
 have HO2 := Li (HO.out.up HU2.out hbf hB)
 have hw2 : B ≤ w2.heap.size := Nat.le_trans hB HU2.out.size
 have d0 := hE2.cell 0 (by simp)
 have d1 := hE2.cell 1 (by simp)
 have d2 := hE2.cell 2 (by simp)
 have d3 := hE2.cell 3 (by simp)
 have d4 := hE2.cell 4 (by simp)
 have d5 := hE2.cell 5 (by simp)
 have d6 := hE2.cell 6 (by simp)
 have d7 := hE2.cell 7 (by simp)
 have d8 := hE2.cell 8 (by simp)
 have d9 := hE2.cell 9 (by simp)
 have d10 := hE2.cell 10 (by simp)
 have HE2 := Li hE2
 have hs2 : w.heap.size < w2.heap.size := hE2.lt
 have HCN := Li hcl
 clear hE2 hb2 HCL hcl HE1 HK1 HU1 f0 f1 f2 f3 f4 f5 f6 f7 f8 f9 f10
 cases y with
 | false =>
   have FIN : Hid ((FPost bf lf w (fun n => OkE (.mk 1 op tx v nm a b c d) ∧ (ctE (.mk 1 op tx v nm a b c d) : Int) ≤ n) (.returned (.bool false)) w2)) := Li ⟨false, l1, rfl, HK2.out, HU2.out, hl11, by omega, fun h => by simp at h⟩
   clear HK2 HU2 HE2
   go_wp2_with fail
   go_ret
   exact FIN.out
 | true =>
 have HCB : Hid (b = []) := Li (by rcases HCN.out rfl with h | h <;> first | omega | exact len0 h)
 by_cases hn : a.length ≠ 0
 · have FIN : Hid ((FPost bf lf w (fun n => OkE (.mk 1 op tx v nm a b c d) ∧ (ctE (.mk 1 op tx v nm a b c d) : Int) ≤ n) (.returned (.bool false)) w2)) := Li ⟨false, l1, rfl, HK2.out, HU2.out, hl11, by omega, fun h => by simp at h⟩
   have hn1 : ((a.length : Int) != 0) = true := by rw [bne_iff_ne]; omega
   clear HK2 HU2 HE2 hn
   go_wp2_with fail
   go_ret
   exact FIN.out
 have HN : Hid (a.length = 0) := Li (by omega)
 have hn1 : ((a.length : Int) != 0) = false := by rw [bne_eq_false_iff_eq]; omega
 clear hn
 go_wp2_with (go_at_call 21; refine (isName_any _ _ HTX.out).mono ?_; rintro e w' ⟨y, rfl, rfl⟩)
 have FIN : Hid ((FPost bf lf w (fun n => OkE (.mk 1 op tx v nm a b c d) ∧ (ctE (.mk 1 op tx v nm a b c d) : Int) ≤ n) (.returned (.bool y)) w2)) := Li ⟨y, l1, rfl, HK2.out, HU2.out, hl11, by omega, fun h => ⟨h01, by rw [HCB.out, len0 HN.out]; exact .name _ _ _ _ _ _, by rw [ctE_mk, HCB.out, len0 HN.out]; simp; omega⟩⟩
 clear HK2 HU2 HE2
 go_ret
 exact FIN.out
set_option maxHeartbeats 6400000 in
theorem expr_k2 {R : Nat → Nat → Option Value} {B bf : Nat} (op : Int) (tx : ByteArray) (v : VV) (nm : List ByteArray) (a b c d : List Tr) (ma ka sa pa : Option Addr) (mc kc sc pc : Nat) (deep lf : Int) (w : World) (IH : ∀ s ∈ a, FEx R B bf s ∧ ∀ k ∈ s.a, FEx R B bf k) (IHP : ∀ p ∈ b, ∀ k ∈ p.a, FEx R B bf k)
   (hvr : VaR R v [.int .i64 v.kd, .bool v.nb, .slice ma v.ms.length mc, .int .u64 v.ub, .string v.tx, .slice ka v.kn kc]) (hxa : ExL R a (.slice sa a.length sc)) (hpb : PaL R b (.slice pa b.length pc)) (htx : tx.size ≤ maxLen) (ho : Old R B w) (hB : B ≤ w.heap.size) (hbf : B ≤ bf) (hb : Blk w bf 37 [.int .i64 lf]) (h0 : 0 ≤ lf) (h300 : lf ≤ 300) (hd : 0 ≤ deep) (hd2 : deep ≤ 25) :
   Calls Tryz.prog 26 #[.pointer (some ⟨bf, 0, none⟩), .agg #[.int .i64 2, .int .i64 op, .string tx, .int .i64 v.kd, .bool v.nb, .slice ma v.ms.length mc, .int .u64 v.ub, .string v.tx, .slice ka v.kn kc, .slice sa a.length sc, .slice pa b.length pc], .int .i64 deep] w (FPost bf lf w (fun n => OkE (.mk 2 op tx v nm a b c d) ∧ (ctE (.mk 2 op tx v nm a b c d) : Int) ≤ n)) := by
 obtain ⟨W0, hW0⟩ : ∃ W0, W0 = w.alloc (.cells #[.int .i64 2, .int .i64 op, .string tx, .int .i64 v.kd, .bool v.nb, .slice ma v.ms.length mc, .int .u64 v.ub, .string v.tx, .slice ka v.kn kc, .slice sa a.length sc, .slice pa b.length pc] 75) := ⟨_, rfl⟩
 have hu0 : Up (some bf) w W0 := by rw [hW0]; exact (Up.refl (some bf) w).alloc _
 have E0 : Blk W0 w.heap.size 75 [.int .i64 2, .int .i64 op, .string tx, .int .i64 v.kd, .bool v.nb, .slice ma v.ms.length mc, .int .u64 v.ub, .string v.tx, .slice ka v.kn kc, .slice sa a.length sc, .slice pa b.length pc] := by rw [hW0]; exact Blk.new w _ _
 have hbl := hb.lt
 have hK0 : Blk W0 bf 37 [.int .i64 lf] := by rw [hW0]; exact hb.alloc _
 have hW0s : W0.heap.size = w.heap.size + 1 := by rw [hW0]; simp
 have hO0 : Old R B W0 := ho.up hu0 hbf hB
 have hne : w.heap.size ≠ bf := by omega
 have TK := Li (takes_any bf lf deep W0 hK0 h0 h300 hd (by omega))
 have KK : Hid (∀ W, Calls Tryz.prog 29 #[.int .i64 2] W (fun e w' => e = .returned (.int .i64 0) ∧ W = w')) := Li (fun W => by
   have h := treeKids_any 2 W
   have e : tkK 2 = 0 := by decide
   rw [e] at h
   exact h)
 have HU0 := Li hu0; have HK0 := Li hK0; have HE0 := Li E0; have HO := Li ho
 have HIH := Li IH; have HIP := Li IHP; have HXA := Li hxa; have HPB := Li hpb; have HTX := Li htx; have HVR := Li hvr
 clear hu0 E0 hK0 hO0 hb ho IH IHP hxa hpb htx hvr
 have hm : a.length ≤ sc ∧ sc ≤ maxLen := by
   obtain ⟨_, _, e, h1, h2, _⟩ := HXA.out.form
   simp only [Value.slice.injEq, true_and] at e
   rw [e.2]; exact ⟨h1, h2⟩
 unfold maxLen at hm
 obtain ⟨hm1, hm2⟩ := hm
 subst hW0
 go_enter Tryz.func26, Tryz.ntmps26
 go_wp2_with (go_at_call 29; refine (KK.out _).mono ?_; rintro e w' ⟨rfl, rfl⟩)
 refine TK.out.mono ?_
 rintro e w1 ⟨y, l1, rfl, hb1, hu1, hl11, hl12, hok1⟩
 have HK1 := Li hb1
 have HU1 := Li (HU0.out.trans hu1)
 have hE1 := HE0.out.up hu1 (by simp only [ne_eq, Option.some.injEq]; exact hne)
 have f0 := hE1.cell 0 (by simp)
 have f1 := hE1.cell 1 (by simp)
 have f2 := hE1.cell 2 (by simp)
 have f3 := hE1.cell 3 (by simp)
 have f4 := hE1.cell 4 (by simp)
 have f5 := hE1.cell 5 (by simp)
 have f6 := hE1.cell 6 (by simp)
 have f7 := hE1.cell 7 (by simp)
 have f8 := hE1.cell 8 (by simp)
 have f9 := hE1.cell 9 (by simp)
 have f10 := hE1.cell 10 (by simp)
 have HE1 := Li hE1
 have hs1 : w.heap.size < w1.heap.size := hE1.lt
 clear hE1 hb1 hu1 TK HE0 HK0 HU0 KK
 cases y with
 | false =>
   have FIN : Hid ((FPost bf lf w (fun n => OkE (.mk 2 op tx v nm a b c d) ∧ (ctE (.mk 2 op tx v nm a b c d) : Int) ≤ n) (.returned (.bool false)) w1)) := Li ⟨false, l1, rfl, HK1.out, HU1.out, hl11, by omega, fun h => by simp at h⟩
   clear HK1 HU1 hok1 HE1
   go_wp2_with fail
   go_ret
   exact FIN.out
 | true =>
 obtain ⟨h01, hdp, h11⟩ := hok1 rfl
 have HCL := Li (treeClean_any 2 op v.kd v.ub tx v.tx v.nb ma ka sa pa v.ms.length mc v.kn kc a.length sc b.length pc w1)
 clear hok1
 go_wp2_with fail
 refine HCL.out.mono ?_
 rintro e w2 ⟨y, rfl, hcl, hb2⟩
 have HU2 := Li (HU1.out.trans (Up.of_below hb2))
 have HK2 := Li (HK1.out.below hb2 HK1.out.lt)
 have hE2 := HE1.out.below hb2 HE1.out.lt
 have HO2 := Li (HO.out.up HU2.out hbf hB)
 have hw2 : B ≤ w2.heap.size := Nat.le_trans hB HU2.out.size
 have d0 := hE2.cell 0 (by simp)
 have d1 := hE2.cell 1 (by simp)
 have d2 := hE2.cell 2 (by simp)
 have d3 := hE2.cell 3 (by simp)
 have d4 := hE2.cell 4 (by simp)
 have d5 := hE2.cell 5 (by simp)
 have d6 := hE2.cell 6 (by simp)
 have d7 := hE2.cell 7 (by simp)
 have d8 := hE2.cell 8 (by simp)
 have d9 := hE2.cell 9 (by simp)
 have d10 := hE2.cell 10 (by simp)
 have HE2 := Li hE2
 have hs2 : w.heap.size < w2.heap.size := hE2.lt
 have HCN := Li hcl
 clear hE2 hb2 HCL hcl HE1 HK1 HU1 f0 f1 f2 f3 f4 f5 f6 f7 f8 f9 f10
 cases y with
 | false =>
   have FIN : Hid ((FPost bf lf w (fun n => OkE (.mk 2 op tx v nm a b c d) ∧ (ctE (.mk 2 op tx v nm a b c d) : Int) ≤ n) (.returned (.bool false)) w2)) := Li ⟨false, l1, rfl, HK2.out, HU2.out, hl11, by omega, fun h => by simp at h⟩
   clear HK2 HU2 HE2
   go_wp2_with fail
   go_ret
   exact FIN.out
 | true =>
 have HCB : Hid (b = []) := Li (by rcases HCN.out rfl with h | h <;> first | omega | exact len0 h)
 by_cases hn : a.length ≠ 0
 · have FIN : Hid ((FPost bf lf w (fun n => OkE (.mk 2 op tx v nm a b c d) ∧ (ctE (.mk 2 op tx v nm a b c d) : Int) ≤ n) (.returned (.bool false)) w2)) := Li ⟨false, l1, rfl, HK2.out, HU2.out, hl11, by omega, fun h => by simp at h⟩
   have hn1 : ((a.length : Int) != 0) = true := by rw [bne_iff_ne]; omega
   clear HK2 HU2 HE2 hn
   go_wp2_with fail
   go_ret
   exact FIN.out
 have HN : Hid (a.length = 0) := Li (by omega)
 have hn1 : ((a.length : Int) != 0) = false := by rw [bne_eq_false_iff_eq]; omega
 clear hn
 have HC := Li (treeLiteral_any v ma mc ka kc HVR.out HO2.out)
 go_wp2_with fail
 refine HC.out.mono ?_
 rintro e w3 ⟨y, rfl, hlit, hb3⟩
 have FIN : Hid ((FPost bf lf w (fun n => OkE (.mk 2 op tx v nm a b c d) ∧ (ctE (.mk 2 op tx v nm a b c d) : Int) ≤ n) (.returned (.bool y)) w3)) := Li ⟨y, l1, rfl, HK2.out.below hb3 HK2.out.lt, HU2.out.trans (Up.of_below hb3), hl11, by omega, fun h => ⟨h01, by rw [HCB.out, len0 HN.out]; exact .lit _ _ _ _ _ _ (hlit h), by rw [ctE_mk, HCB.out, len0 HN.out]; simp; omega⟩⟩
 clear HK2 HU2 HE2 hb3 HC hlit
 go_wp2_with fail
 go_ret
 exact FIN.out
set_option maxHeartbeats 6400000 in
theorem expr_k3 {R : Nat → Nat → Option Value} {B bf : Nat} (op : Int) (tx : ByteArray) (v : VV) (nm : List ByteArray) (a b c d : List Tr) (ma ka sa pa : Option Addr) (mc kc sc pc : Nat) (deep lf : Int) (w : World) (IH : ∀ s ∈ a, FEx R B bf s ∧ ∀ k ∈ s.a, FEx R B bf k) (IHP : ∀ p ∈ b, ∀ k ∈ p.a, FEx R B bf k)
   (hvr : VaR R v [.int .i64 v.kd, .bool v.nb, .slice ma v.ms.length mc, .int .u64 v.ub, .string v.tx, .slice ka v.kn kc]) (hxa : ExL R a (.slice sa a.length sc)) (hpb : PaL R b (.slice pa b.length pc)) (htx : tx.size ≤ maxLen) (ho : Old R B w) (hB : B ≤ w.heap.size) (hbf : B ≤ bf) (hb : Blk w bf 37 [.int .i64 lf]) (h0 : 0 ≤ lf) (h300 : lf ≤ 300) (hd : 0 ≤ deep) (hd2 : deep ≤ 25) :
   Calls Tryz.prog 26 #[.pointer (some ⟨bf, 0, none⟩), .agg #[.int .i64 3, .int .i64 op, .string tx, .int .i64 v.kd, .bool v.nb, .slice ma v.ms.length mc, .int .u64 v.ub, .string v.tx, .slice ka v.kn kc, .slice sa a.length sc, .slice pa b.length pc], .int .i64 deep] w (FPost bf lf w (fun n => OkE (.mk 3 op tx v nm a b c d) ∧ (ctE (.mk 3 op tx v nm a b c d) : Int) ≤ n)) := by
 obtain ⟨W0, hW0⟩ : ∃ W0, W0 = w.alloc (.cells #[.int .i64 3, .int .i64 op, .string tx, .int .i64 v.kd, .bool v.nb, .slice ma v.ms.length mc, .int .u64 v.ub, .string v.tx, .slice ka v.kn kc, .slice sa a.length sc, .slice pa b.length pc] 75) := ⟨_, rfl⟩
 have hu0 : Up (some bf) w W0 := by rw [hW0]; exact (Up.refl (some bf) w).alloc _
 have E0 : Blk W0 w.heap.size 75 [.int .i64 3, .int .i64 op, .string tx, .int .i64 v.kd, .bool v.nb, .slice ma v.ms.length mc, .int .u64 v.ub, .string v.tx, .slice ka v.kn kc, .slice sa a.length sc, .slice pa b.length pc] := by rw [hW0]; exact Blk.new w _ _
 have hbl := hb.lt
 have hK0 : Blk W0 bf 37 [.int .i64 lf] := by rw [hW0]; exact hb.alloc _
 have hW0s : W0.heap.size = w.heap.size + 1 := by rw [hW0]; simp
 have hO0 : Old R B W0 := ho.up hu0 hbf hB
 have hne : w.heap.size ≠ bf := by omega
 have TK := Li (takes_any bf lf deep W0 hK0 h0 h300 hd (by omega))
 have KK : Hid (∀ W, Calls Tryz.prog 29 #[.int .i64 3] W (fun e w' => e = .returned (.int .i64 (-1)) ∧ W = w')) := Li (fun W => by
   have h := treeKids_any 3 W
   have e : tkK 3 = (-1) := by decide
   rw [e] at h
   exact h)
 have HU0 := Li hu0; have HK0 := Li hK0; have HE0 := Li E0; have HO := Li ho
 have HIH := Li IH; have HIP := Li IHP; have HXA := Li hxa; have HPB := Li hpb; have HTX := Li htx; have HVR := Li hvr
 clear hu0 E0 hK0 hO0 hb ho IH IHP hxa hpb htx hvr
 have hm : a.length ≤ sc ∧ sc ≤ maxLen := by
   obtain ⟨_, _, e, h1, h2, _⟩ := HXA.out.form
   simp only [Value.slice.injEq, true_and] at e
   rw [e.2]; exact ⟨h1, h2⟩
 unfold maxLen at hm
 obtain ⟨hm1, hm2⟩ := hm
 subst hW0
 go_enter Tryz.func26, Tryz.ntmps26
 go_wp2_with (go_at_call 29; refine (KK.out _).mono ?_; rintro e w' ⟨rfl, rfl⟩)
 refine TK.out.mono ?_
 rintro e w1 ⟨y, l1, rfl, hb1, hu1, hl11, hl12, hok1⟩
 have HK1 := Li hb1
 have HU1 := Li (HU0.out.trans hu1)
 have hE1 := HE0.out.up hu1 (by simp only [ne_eq, Option.some.injEq]; exact hne)
 have f0 := hE1.cell 0 (by simp)
 have f1 := hE1.cell 1 (by simp)
 have f2 := hE1.cell 2 (by simp)
 have f3 := hE1.cell 3 (by simp)
 have f4 := hE1.cell 4 (by simp)
 have f5 := hE1.cell 5 (by simp)
 have f6 := hE1.cell 6 (by simp)
 have f7 := hE1.cell 7 (by simp)
 have f8 := hE1.cell 8 (by simp)
 have f9 := hE1.cell 9 (by simp)
 have f10 := hE1.cell 10 (by simp)
 have HE1 := Li hE1
 have hs1 : w.heap.size < w1.heap.size := hE1.lt
 clear hE1 hb1 hu1 TK HE0 HK0 HU0 KK
 cases y with
 | false =>
   have FIN : Hid ((FPost bf lf w (fun n => OkE (.mk 3 op tx v nm a b c d) ∧ (ctE (.mk 3 op tx v nm a b c d) : Int) ≤ n) (.returned (.bool false)) w1)) := Li ⟨false, l1, rfl, HK1.out, HU1.out, hl11, by omega, fun h => by simp at h⟩
   clear HK1 HU1 hok1 HE1
   go_wp2_with fail
   go_ret
   exact FIN.out
 | true =>
 obtain ⟨h01, hdp, h11⟩ := hok1 rfl
 have HCL := Li (treeClean_any 3 op v.kd v.ub tx v.tx v.nb ma ka sa pa v.ms.length mc v.kn kc a.length sc b.length pc w1)
 clear hok1
 go_wp2_with fail
 refine HCL.out.mono ?_
 rintro e w2 ⟨y, rfl, hcl, hb2⟩
 have HU2 := Li (HU1.out.trans (Up.of_below hb2))
 have HK2 := Li (HK1.out.below hb2 HK1.out.lt)
 have hE2 := HE1.out.below hb2 HE1.out.lt
 have HO2 := Li (HO.out.up HU2.out hbf hB)
 have hw2 : B ≤ w2.heap.size := Nat.le_trans hB HU2.out.size
 have d0 := hE2.cell 0 (by simp)
 have d1 := hE2.cell 1 (by simp)
 have d2 := hE2.cell 2 (by simp)
 have d3 := hE2.cell 3 (by simp)
 have d4 := hE2.cell 4 (by simp)
 have d5 := hE2.cell 5 (by simp)
 have d6 := hE2.cell 6 (by simp)
 have d7 := hE2.cell 7 (by simp)
 have d8 := hE2.cell 8 (by simp)
 have d9 := hE2.cell 9 (by simp)
 have d10 := hE2.cell 10 (by simp)
 have HE2 := Li hE2
 have hs2 : w.heap.size < w2.heap.size := hE2.lt
 have HCN := Li hcl
 clear hE2 hb2 HCL hcl HE1 HK1 HU1 f0 f1 f2 f3 f4 f5 f6 f7 f8 f9 f10
 cases y with
 | false =>
   have FIN : Hid ((FPost bf lf w (fun n => OkE (.mk 3 op tx v nm a b c d) ∧ (ctE (.mk 3 op tx v nm a b c d) : Int) ≤ n) (.returned (.bool false)) w2)) := Li ⟨false, l1, rfl, HK2.out, HU2.out, hl11, by omega, fun h => by simp at h⟩
   clear HK2 HU2 HE2
   go_wp2_with fail
   go_ret
   exact FIN.out
 | true =>
 have HCB : Hid (b = []) := Li (by rcases HCN.out rfl with h | h <;> first | omega | exact len0 h)
 have HC := Li (all_of (l := a) (fun x hx => (HIH.out x hx).1) sa sc (deep + 1) l1 w2 HXA.out HO2.out hw2 hbf HK2.out h01 (by omega) (by omega) (by omega))
 go_wp2_with fail
 refine HC.out.mono ?_
 rintro e w3 ⟨y, l3, rfl, hb3, hu3, hl31, hl32, hok3⟩
 have FIN : Hid ((FPost bf lf w (fun n => OkE (.mk 3 op tx v nm a b c d) ∧ (ctE (.mk 3 op tx v nm a b c d) : Int) ≤ n) (.returned (.bool y)) w3)) := Li ⟨y, l3, rfl, hb3, HU2.out.trans hu3, hl31, by omega, fun h => by
   obtain ⟨h03, hP3, hC3⟩ := hok3 h
   refine ⟨h03, ?_, ?_⟩
   · rw [HCB.out]; exact .many _ _ _ _ _ _ _ _ (by omega) hP3
   · rw [ctE_mk, HCB.out]; simp; omega⟩
 clear HK2 HU2 hb3 hu3 hok3 HC HE2
 go_wp2_with fail
 go_ret
 exact FIN.out
set_option maxHeartbeats 6400000 in
theorem expr_k4 {R : Nat → Nat → Option Value} {B bf : Nat} (op : Int) (tx : ByteArray) (v : VV) (nm : List ByteArray) (a b c d : List Tr) (ma ka sa pa : Option Addr) (mc kc sc pc : Nat) (deep lf : Int) (w : World) (IH : ∀ s ∈ a, FEx R B bf s ∧ ∀ k ∈ s.a, FEx R B bf k) (IHP : ∀ p ∈ b, ∀ k ∈ p.a, FEx R B bf k)
   (hvr : VaR R v [.int .i64 v.kd, .bool v.nb, .slice ma v.ms.length mc, .int .u64 v.ub, .string v.tx, .slice ka v.kn kc]) (hxa : ExL R a (.slice sa a.length sc)) (hpb : PaL R b (.slice pa b.length pc)) (htx : tx.size ≤ maxLen) (ho : Old R B w) (hB : B ≤ w.heap.size) (hbf : B ≤ bf) (hb : Blk w bf 37 [.int .i64 lf]) (h0 : 0 ≤ lf) (h300 : lf ≤ 300) (hd : 0 ≤ deep) (hd2 : deep ≤ 25) :
   Calls Tryz.prog 26 #[.pointer (some ⟨bf, 0, none⟩), .agg #[.int .i64 4, .int .i64 op, .string tx, .int .i64 v.kd, .bool v.nb, .slice ma v.ms.length mc, .int .u64 v.ub, .string v.tx, .slice ka v.kn kc, .slice sa a.length sc, .slice pa b.length pc], .int .i64 deep] w (FPost bf lf w (fun n => OkE (.mk 4 op tx v nm a b c d) ∧ (ctE (.mk 4 op tx v nm a b c d) : Int) ≤ n)) := by
 obtain ⟨W0, hW0⟩ : ∃ W0, W0 = w.alloc (.cells #[.int .i64 4, .int .i64 op, .string tx, .int .i64 v.kd, .bool v.nb, .slice ma v.ms.length mc, .int .u64 v.ub, .string v.tx, .slice ka v.kn kc, .slice sa a.length sc, .slice pa b.length pc] 75) := ⟨_, rfl⟩
 have hu0 : Up (some bf) w W0 := by rw [hW0]; exact (Up.refl (some bf) w).alloc _
 have E0 : Blk W0 w.heap.size 75 [.int .i64 4, .int .i64 op, .string tx, .int .i64 v.kd, .bool v.nb, .slice ma v.ms.length mc, .int .u64 v.ub, .string v.tx, .slice ka v.kn kc, .slice sa a.length sc, .slice pa b.length pc] := by rw [hW0]; exact Blk.new w _ _
 have hbl := hb.lt
 have hK0 : Blk W0 bf 37 [.int .i64 lf] := by rw [hW0]; exact hb.alloc _
 have hW0s : W0.heap.size = w.heap.size + 1 := by rw [hW0]; simp
 have hO0 : Old R B W0 := ho.up hu0 hbf hB
 have hne : w.heap.size ≠ bf := by omega
 have TK := Li (takes_any bf lf deep W0 hK0 h0 h300 hd (by omega))
 have KK : Hid (∀ W, Calls Tryz.prog 29 #[.int .i64 4] W (fun e w' => e = .returned (.int .i64 (-1)) ∧ W = w')) := Li (fun W => by
   have h := treeKids_any 4 W
   have e : tkK 4 = (-1) := by decide
   rw [e] at h
   exact h)
 have HU0 := Li hu0; have HK0 := Li hK0; have HE0 := Li E0; have HO := Li ho
 have HIH := Li IH; have HIP := Li IHP; have HXA := Li hxa; have HPB := Li hpb; have HTX := Li htx; have HVR := Li hvr
 clear hu0 E0 hK0 hO0 hb ho IH IHP hxa hpb htx hvr
 have hm : a.length ≤ sc ∧ sc ≤ maxLen := by
   obtain ⟨_, _, e, h1, h2, _⟩ := HXA.out.form
   simp only [Value.slice.injEq, true_and] at e
   rw [e.2]; exact ⟨h1, h2⟩
 unfold maxLen at hm
 obtain ⟨hm1, hm2⟩ := hm
 subst hW0
 go_enter Tryz.func26, Tryz.ntmps26
 go_wp2_with (go_at_call 29; refine (KK.out _).mono ?_; rintro e w' ⟨rfl, rfl⟩)
 refine TK.out.mono ?_
 rintro e w1 ⟨y, l1, rfl, hb1, hu1, hl11, hl12, hok1⟩
 have HK1 := Li hb1
 have HU1 := Li (HU0.out.trans hu1)
 have hE1 := HE0.out.up hu1 (by simp only [ne_eq, Option.some.injEq]; exact hne)
 have f0 := hE1.cell 0 (by simp)
 have f1 := hE1.cell 1 (by simp)
 have f2 := hE1.cell 2 (by simp)
 have f3 := hE1.cell 3 (by simp)
 have f4 := hE1.cell 4 (by simp)
 have f5 := hE1.cell 5 (by simp)
 have f6 := hE1.cell 6 (by simp)
 have f7 := hE1.cell 7 (by simp)
 have f8 := hE1.cell 8 (by simp)
 have f9 := hE1.cell 9 (by simp)
 have f10 := hE1.cell 10 (by simp)
 have HE1 := Li hE1
 have hs1 : w.heap.size < w1.heap.size := hE1.lt
 clear hE1 hb1 hu1 TK HE0 HK0 HU0 KK
 cases y with
 | false =>
   have FIN : Hid ((FPost bf lf w (fun n => OkE (.mk 4 op tx v nm a b c d) ∧ (ctE (.mk 4 op tx v nm a b c d) : Int) ≤ n) (.returned (.bool false)) w1)) := Li ⟨false, l1, rfl, HK1.out, HU1.out, hl11, by omega, fun h => by simp at h⟩
   clear HK1 HU1 hok1 HE1
   go_wp2_with fail
   go_ret
   exact FIN.out
 | true =>
 obtain ⟨h01, hdp, h11⟩ := hok1 rfl
 have HCL := Li (treeClean_any 4 op v.kd v.ub tx v.tx v.nb ma ka sa pa v.ms.length mc v.kn kc a.length sc b.length pc w1)
 clear hok1
 go_wp2_with fail
 refine HCL.out.mono ?_
 rintro e w2 ⟨y, rfl, hcl, hb2⟩
 have HU2 := Li (HU1.out.trans (Up.of_below hb2))
 have HK2 := Li (HK1.out.below hb2 HK1.out.lt)
 have hE2 := HE1.out.below hb2 HE1.out.lt
 have HO2 := Li (HO.out.up HU2.out hbf hB)
 have hw2 : B ≤ w2.heap.size := Nat.le_trans hB HU2.out.size
 have d0 := hE2.cell 0 (by simp)
 have d1 := hE2.cell 1 (by simp)
 have d2 := hE2.cell 2 (by simp)
 have d3 := hE2.cell 3 (by simp)
 have d4 := hE2.cell 4 (by simp)
 have d5 := hE2.cell 5 (by simp)
 have d6 := hE2.cell 6 (by simp)
 have d7 := hE2.cell 7 (by simp)
 have d8 := hE2.cell 8 (by simp)
 have d9 := hE2.cell 9 (by simp)
 have d10 := hE2.cell 10 (by simp)
 have HE2 := Li hE2
 have hs2 : w.heap.size < w2.heap.size := hE2.lt
 have HCN := Li hcl
 clear hE2 hb2 HCL hcl HE1 HK1 HU1 f0 f1 f2 f3 f4 f5 f6 f7 f8 f9 f10
 cases y with
 | false =>
   have FIN : Hid ((FPost bf lf w (fun n => OkE (.mk 4 op tx v nm a b c d) ∧ (ctE (.mk 4 op tx v nm a b c d) : Int) ≤ n) (.returned (.bool false)) w2)) := Li ⟨false, l1, rfl, HK2.out, HU2.out, hl11, by omega, fun h => by simp at h⟩
   clear HK2 HU2 HE2
   go_wp2_with fail
   go_ret
   exact FIN.out
 | true =>
 have HCB : Hid (b = []) := Li (by rcases HCN.out rfl with h | h <;> first | omega | exact len0 h)
 have HC := Li (all_of (l := a) (fun x hx => (HIH.out x hx).1) sa sc (deep + 1) l1 w2 HXA.out HO2.out hw2 hbf HK2.out h01 (by omega) (by omega) (by omega))
 go_wp2_with fail
 refine HC.out.mono ?_
 rintro e w3 ⟨y, l3, rfl, hb3, hu3, hl31, hl32, hok3⟩
 have FIN : Hid ((FPost bf lf w (fun n => OkE (.mk 4 op tx v nm a b c d) ∧ (ctE (.mk 4 op tx v nm a b c d) : Int) ≤ n) (.returned (.bool y)) w3)) := Li ⟨y, l3, rfl, hb3, HU2.out.trans hu3, hl31, by omega, fun h => by
   obtain ⟨h03, hP3, hC3⟩ := hok3 h
   refine ⟨h03, ?_, ?_⟩
   · rw [HCB.out]; exact .many _ _ _ _ _ _ _ _ (by omega) hP3
   · rw [ctE_mk, HCB.out]; simp; omega⟩
 clear HK2 HU2 hb3 hu3 hok3 HC HE2
 go_wp2_with fail
 go_ret
 exact FIN.out
set_option maxHeartbeats 6400000 in
theorem expr_k5 {R : Nat → Nat → Option Value} {B bf : Nat} (op : Int) (tx : ByteArray) (v : VV) (nm : List ByteArray) (a b c d : List Tr) (ma ka sa pa : Option Addr) (mc kc sc pc : Nat) (deep lf : Int) (w : World) (IH : ∀ s ∈ a, FEx R B bf s ∧ ∀ k ∈ s.a, FEx R B bf k) (IHP : ∀ p ∈ b, ∀ k ∈ p.a, FEx R B bf k)
   (hvr : VaR R v [.int .i64 v.kd, .bool v.nb, .slice ma v.ms.length mc, .int .u64 v.ub, .string v.tx, .slice ka v.kn kc]) (hxa : ExL R a (.slice sa a.length sc)) (hpb : PaL R b (.slice pa b.length pc)) (htx : tx.size ≤ maxLen) (ho : Old R B w) (hB : B ≤ w.heap.size) (hbf : B ≤ bf) (hb : Blk w bf 37 [.int .i64 lf]) (h0 : 0 ≤ lf) (h300 : lf ≤ 300) (hd : 0 ≤ deep) (hd2 : deep ≤ 25) :
   Calls Tryz.prog 26 #[.pointer (some ⟨bf, 0, none⟩), .agg #[.int .i64 5, .int .i64 op, .string tx, .int .i64 v.kd, .bool v.nb, .slice ma v.ms.length mc, .int .u64 v.ub, .string v.tx, .slice ka v.kn kc, .slice sa a.length sc, .slice pa b.length pc], .int .i64 deep] w (FPost bf lf w (fun n => OkE (.mk 5 op tx v nm a b c d) ∧ (ctE (.mk 5 op tx v nm a b c d) : Int) ≤ n)) := by
 obtain ⟨W0, hW0⟩ : ∃ W0, W0 = w.alloc (.cells #[.int .i64 5, .int .i64 op, .string tx, .int .i64 v.kd, .bool v.nb, .slice ma v.ms.length mc, .int .u64 v.ub, .string v.tx, .slice ka v.kn kc, .slice sa a.length sc, .slice pa b.length pc] 75) := ⟨_, rfl⟩
 have hu0 : Up (some bf) w W0 := by rw [hW0]; exact (Up.refl (some bf) w).alloc _
 have E0 : Blk W0 w.heap.size 75 [.int .i64 5, .int .i64 op, .string tx, .int .i64 v.kd, .bool v.nb, .slice ma v.ms.length mc, .int .u64 v.ub, .string v.tx, .slice ka v.kn kc, .slice sa a.length sc, .slice pa b.length pc] := by rw [hW0]; exact Blk.new w _ _
 have hbl := hb.lt
 have hK0 : Blk W0 bf 37 [.int .i64 lf] := by rw [hW0]; exact hb.alloc _
 have hW0s : W0.heap.size = w.heap.size + 1 := by rw [hW0]; simp
 have hO0 : Old R B W0 := ho.up hu0 hbf hB
 have hne : w.heap.size ≠ bf := by omega
 have TK := Li (takes_any bf lf deep W0 hK0 h0 h300 hd (by omega))
 have KK : Hid (∀ W, Calls Tryz.prog 29 #[.int .i64 5] W (fun e w' => e = .returned (.int .i64 (-1)) ∧ W = w')) := Li (fun W => by
   have h := treeKids_any 5 W
   have e : tkK 5 = (-1) := by decide
   rw [e] at h
   exact h)
 have HU0 := Li hu0; have HK0 := Li hK0; have HE0 := Li E0; have HO := Li ho
 have HIH := Li IH; have HIP := Li IHP; have HXA := Li hxa; have HPB := Li hpb; have HTX := Li htx; have HVR := Li hvr
 clear hu0 E0 hK0 hO0 hb ho IH IHP hxa hpb htx hvr
 have hm : a.length ≤ sc ∧ sc ≤ maxLen := by
   obtain ⟨_, _, e, h1, h2, _⟩ := HXA.out.form
   simp only [Value.slice.injEq, true_and] at e
   rw [e.2]; exact ⟨h1, h2⟩
 unfold maxLen at hm
 obtain ⟨hm1, hm2⟩ := hm
 subst hW0
 go_enter Tryz.func26, Tryz.ntmps26
 go_wp2_with (go_at_call 29; refine (KK.out _).mono ?_; rintro e w' ⟨rfl, rfl⟩)
 refine TK.out.mono ?_
 rintro e w1 ⟨y, l1, rfl, hb1, hu1, hl11, hl12, hok1⟩
 have HK1 := Li hb1
 have HU1 := Li (HU0.out.trans hu1)
 have hE1 := HE0.out.up hu1 (by simp only [ne_eq, Option.some.injEq]; exact hne)
 have f0 := hE1.cell 0 (by simp)
 have f1 := hE1.cell 1 (by simp)
 have f2 := hE1.cell 2 (by simp)
 have f3 := hE1.cell 3 (by simp)
 have f4 := hE1.cell 4 (by simp)
 have f5 := hE1.cell 5 (by simp)
 have f6 := hE1.cell 6 (by simp)
 have f7 := hE1.cell 7 (by simp)
 have f8 := hE1.cell 8 (by simp)
 have f9 := hE1.cell 9 (by simp)
 have f10 := hE1.cell 10 (by simp)
 have HE1 := Li hE1
 have hs1 : w.heap.size < w1.heap.size := hE1.lt
 clear hE1 hb1 hu1 TK HE0 HK0 HU0 KK
 cases y with
 | false =>
   have FIN : Hid ((FPost bf lf w (fun n => OkE (.mk 5 op tx v nm a b c d) ∧ (ctE (.mk 5 op tx v nm a b c d) : Int) ≤ n) (.returned (.bool false)) w1)) := Li ⟨false, l1, rfl, HK1.out, HU1.out, hl11, by omega, fun h => by simp at h⟩
   clear HK1 HU1 hok1 HE1
   go_wp2_with fail
   go_ret
   exact FIN.out
 | true =>
 obtain ⟨h01, hdp, h11⟩ := hok1 rfl
 have HCL := Li (treeClean_any 5 op v.kd v.ub tx v.tx v.nb ma ka sa pa v.ms.length mc v.kn kc a.length sc b.length pc w1)
 clear hok1
 go_wp2_with fail
 refine HCL.out.mono ?_
 rintro e w2 ⟨y, rfl, hcl, hb2⟩
 have HU2 := Li (HU1.out.trans (Up.of_below hb2))
 have HK2 := Li (HK1.out.below hb2 HK1.out.lt)
 have hE2 := HE1.out.below hb2 HE1.out.lt
 have HO2 := Li (HO.out.up HU2.out hbf hB)
 have hw2 : B ≤ w2.heap.size := Nat.le_trans hB HU2.out.size
 have d0 := hE2.cell 0 (by simp)
 have d1 := hE2.cell 1 (by simp)
 have d2 := hE2.cell 2 (by simp)
 have d3 := hE2.cell 3 (by simp)
 have d4 := hE2.cell 4 (by simp)
 have d5 := hE2.cell 5 (by simp)
 have d6 := hE2.cell 6 (by simp)
 have d7 := hE2.cell 7 (by simp)
 have d8 := hE2.cell 8 (by simp)
 have d9 := hE2.cell 9 (by simp)
 have d10 := hE2.cell 10 (by simp)
 have HE2 := Li hE2
 have hs2 : w.heap.size < w2.heap.size := hE2.lt
 have HCN := Li hcl
 clear hE2 hb2 HCL hcl HE1 HK1 HU1 f0 f1 f2 f3 f4 f5 f6 f7 f8 f9 f10
 cases y with
 | false =>
   have FIN : Hid ((FPost bf lf w (fun n => OkE (.mk 5 op tx v nm a b c d) ∧ (ctE (.mk 5 op tx v nm a b c d) : Int) ≤ n) (.returned (.bool false)) w2)) := Li ⟨false, l1, rfl, HK2.out, HU2.out, hl11, by omega, fun h => by simp at h⟩
   clear HK2 HU2 HE2
   go_wp2_with fail
   go_ret
   exact FIN.out
 | true =>
 have HCB : Hid (b = []) := Li (by rcases HCN.out rfl with h | h <;> first | omega | exact len0 h)
 by_cases he : a.length % 2 = 0
 · have he1 : (((a.length : Int) % 2) == 0) = true := by rw [beq_iff_eq]; omega
   have HC := Li (all_of (l := a) (fun x hx => (HIH.out x hx).1) sa sc (deep + 1) l1 w2 HXA.out HO2.out hw2 hbf HK2.out h01 (by omega) (by omega) (by omega))
   have HE : Hid (a.length % 2 = 0) := Li he
   clear he
   go_wp2_with fail
   refine HC.out.mono ?_
   rintro e w3 ⟨y, l3, rfl, hb3, hu3, hl31, hl32, hok3⟩
   have FIN : Hid ((FPost bf lf w (fun n => OkE (.mk 5 op tx v nm a b c d) ∧ (ctE (.mk 5 op tx v nm a b c d) : Int) ≤ n) (.returned (.bool y)) w3)) := Li ⟨y, l3, rfl, hb3, HU2.out.trans hu3, hl31, by omega, fun h => by
     obtain ⟨h03, hP3, hC3⟩ := hok3 h
     refine ⟨h03, ?_, ?_⟩
     · rw [HCB.out]; exact .dict _ _ _ _ _ _ _ HE.out hP3
     · rw [ctE_mk, HCB.out]; simp; omega⟩
   clear HK2 HU2 hb3 hu3 hok3 HC HE2
   go_wp2_with fail
   go_ret
   exact FIN.out
 · have he1 : (((a.length : Int) % 2) == 0) = false := by rw [beq_eq_false_iff_ne]; omega
   have FIN : Hid ((FPost bf lf w (fun n => OkE (.mk 5 op tx v nm a b c d) ∧ (ctE (.mk 5 op tx v nm a b c d) : Int) ≤ n) (.returned (.bool false)) w2)) := Li ⟨false, l1, rfl, HK2.out, HU2.out, by omega, by omega, fun h => by simp at h⟩
   clear HK2 HU2 HE2 he
   go_wp2_with fail
   go_ret
   exact FIN.out
set_option maxHeartbeats 6400000 in
theorem expr_k6 {R : Nat → Nat → Option Value} {B bf : Nat} (op : Int) (tx : ByteArray) (v : VV) (nm : List ByteArray) (a b c d : List Tr) (ma ka sa pa : Option Addr) (mc kc sc pc : Nat) (deep lf : Int) (w : World) (IH : ∀ s ∈ a, FEx R B bf s ∧ ∀ k ∈ s.a, FEx R B bf k) (IHP : ∀ p ∈ b, ∀ k ∈ p.a, FEx R B bf k)
   (hvr : VaR R v [.int .i64 v.kd, .bool v.nb, .slice ma v.ms.length mc, .int .u64 v.ub, .string v.tx, .slice ka v.kn kc]) (hxa : ExL R a (.slice sa a.length sc)) (hpb : PaL R b (.slice pa b.length pc)) (htx : tx.size ≤ maxLen) (ho : Old R B w) (hB : B ≤ w.heap.size) (hbf : B ≤ bf) (hb : Blk w bf 37 [.int .i64 lf]) (h0 : 0 ≤ lf) (h300 : lf ≤ 300) (hd : 0 ≤ deep) (hd2 : deep ≤ 25) :
   Calls Tryz.prog 26 #[.pointer (some ⟨bf, 0, none⟩), .agg #[.int .i64 6, .int .i64 op, .string tx, .int .i64 v.kd, .bool v.nb, .slice ma v.ms.length mc, .int .u64 v.ub, .string v.tx, .slice ka v.kn kc, .slice sa a.length sc, .slice pa b.length pc], .int .i64 deep] w (FPost bf lf w (fun n => OkE (.mk 6 op tx v nm a b c d) ∧ (ctE (.mk 6 op tx v nm a b c d) : Int) ≤ n)) := by
 obtain ⟨W0, hW0⟩ : ∃ W0, W0 = w.alloc (.cells #[.int .i64 6, .int .i64 op, .string tx, .int .i64 v.kd, .bool v.nb, .slice ma v.ms.length mc, .int .u64 v.ub, .string v.tx, .slice ka v.kn kc, .slice sa a.length sc, .slice pa b.length pc] 75) := ⟨_, rfl⟩
 have hu0 : Up (some bf) w W0 := by rw [hW0]; exact (Up.refl (some bf) w).alloc _
 have E0 : Blk W0 w.heap.size 75 [.int .i64 6, .int .i64 op, .string tx, .int .i64 v.kd, .bool v.nb, .slice ma v.ms.length mc, .int .u64 v.ub, .string v.tx, .slice ka v.kn kc, .slice sa a.length sc, .slice pa b.length pc] := by rw [hW0]; exact Blk.new w _ _
 have hbl := hb.lt
 have hK0 : Blk W0 bf 37 [.int .i64 lf] := by rw [hW0]; exact hb.alloc _
 have hW0s : W0.heap.size = w.heap.size + 1 := by rw [hW0]; simp
 have hO0 : Old R B W0 := ho.up hu0 hbf hB
 have hne : w.heap.size ≠ bf := by omega
 have TK := Li (takes_any bf lf deep W0 hK0 h0 h300 hd (by omega))
 have KK : Hid (∀ W, Calls Tryz.prog 29 #[.int .i64 6] W (fun e w' => e = .returned (.int .i64 1) ∧ W = w')) := Li (fun W => by
   have h := treeKids_any 6 W
   have e : tkK 6 = 1 := by decide
   rw [e] at h
   exact h)
 have HU0 := Li hu0; have HK0 := Li hK0; have HE0 := Li E0; have HO := Li ho
 have HIH := Li IH; have HIP := Li IHP; have HXA := Li hxa; have HPB := Li hpb; have HTX := Li htx; have HVR := Li hvr
 clear hu0 E0 hK0 hO0 hb ho IH IHP hxa hpb htx hvr
 have hm : a.length ≤ sc ∧ sc ≤ maxLen := by
   obtain ⟨_, _, e, h1, h2, _⟩ := HXA.out.form
   simp only [Value.slice.injEq, true_and] at e
   rw [e.2]; exact ⟨h1, h2⟩
 unfold maxLen at hm
 obtain ⟨hm1, hm2⟩ := hm
 subst hW0
 go_enter Tryz.func26, Tryz.ntmps26
 go_wp2_with (go_at_call 29; refine (KK.out _).mono ?_; rintro e w' ⟨rfl, rfl⟩)
 refine TK.out.mono ?_
 rintro e w1 ⟨y, l1, rfl, hb1, hu1, hl11, hl12, hok1⟩
 have HK1 := Li hb1
 have HU1 := Li (HU0.out.trans hu1)
 have hE1 := HE0.out.up hu1 (by simp only [ne_eq, Option.some.injEq]; exact hne)
 have f0 := hE1.cell 0 (by simp)
 have f1 := hE1.cell 1 (by simp)
 have f2 := hE1.cell 2 (by simp)
 have f3 := hE1.cell 3 (by simp)
 have f4 := hE1.cell 4 (by simp)
 have f5 := hE1.cell 5 (by simp)
 have f6 := hE1.cell 6 (by simp)
 have f7 := hE1.cell 7 (by simp)
 have f8 := hE1.cell 8 (by simp)
 have f9 := hE1.cell 9 (by simp)
 have f10 := hE1.cell 10 (by simp)
 have HE1 := Li hE1
 have hs1 : w.heap.size < w1.heap.size := hE1.lt
 clear hE1 hb1 hu1 TK HE0 HK0 HU0 KK
 cases y with
 | false =>
   have FIN : Hid ((FPost bf lf w (fun n => OkE (.mk 6 op tx v nm a b c d) ∧ (ctE (.mk 6 op tx v nm a b c d) : Int) ≤ n) (.returned (.bool false)) w1)) := Li ⟨false, l1, rfl, HK1.out, HU1.out, hl11, by omega, fun h => by simp at h⟩
   clear HK1 HU1 hok1 HE1
   go_wp2_with fail
   go_ret
   exact FIN.out
 | true =>
 obtain ⟨h01, hdp, h11⟩ := hok1 rfl
 have HCL := Li (treeClean_any 6 op v.kd v.ub tx v.tx v.nb ma ka sa pa v.ms.length mc v.kn kc a.length sc b.length pc w1)
 clear hok1
 go_wp2_with fail
 refine HCL.out.mono ?_
 rintro e w2 ⟨y, rfl, hcl, hb2⟩
 have HU2 := Li (HU1.out.trans (Up.of_below hb2))
 have HK2 := Li (HK1.out.below hb2 HK1.out.lt)
 have hE2 := HE1.out.below hb2 HE1.out.lt
 have HO2 := Li (HO.out.up HU2.out hbf hB)
 have hw2 : B ≤ w2.heap.size := Nat.le_trans hB HU2.out.size
 have d0 := hE2.cell 0 (by simp)
 have d1 := hE2.cell 1 (by simp)
 have d2 := hE2.cell 2 (by simp)
 have d3 := hE2.cell 3 (by simp)
 have d4 := hE2.cell 4 (by simp)
 have d5 := hE2.cell 5 (by simp)
 have d6 := hE2.cell 6 (by simp)
 have d7 := hE2.cell 7 (by simp)
 have d8 := hE2.cell 8 (by simp)
 have d9 := hE2.cell 9 (by simp)
 have d10 := hE2.cell 10 (by simp)
 have HE2 := Li hE2
 have hs2 : w.heap.size < w2.heap.size := hE2.lt
 have HCN := Li hcl
 clear hE2 hb2 HCL hcl HE1 HK1 HU1 f0 f1 f2 f3 f4 f5 f6 f7 f8 f9 f10
 cases y with
 | false =>
   have FIN : Hid ((FPost bf lf w (fun n => OkE (.mk 6 op tx v nm a b c d) ∧ (ctE (.mk 6 op tx v nm a b c d) : Int) ≤ n) (.returned (.bool false)) w2)) := Li ⟨false, l1, rfl, HK2.out, HU2.out, hl11, by omega, fun h => by simp at h⟩
   clear HK2 HU2 HE2
   go_wp2_with fail
   go_ret
   exact FIN.out
 | true =>
 have HCB : Hid (b = []) := Li (by rcases HCN.out rfl with h | h <;> first | omega | exact len0 h)
 by_cases hn : a.length ≠ 1
 · have FIN : Hid ((FPost bf lf w (fun n => OkE (.mk 6 op tx v nm a b c d) ∧ (ctE (.mk 6 op tx v nm a b c d) : Int) ≤ n) (.returned (.bool false)) w2)) := Li ⟨false, l1, rfl, HK2.out, HU2.out, hl11, by omega, fun h => by simp at h⟩
   have hn1 : ((a.length : Int) != 1) = true := by rw [bne_iff_ne]; omega
   clear HK2 HU2 HE2 hn
   go_wp2_with fail
   go_ret
   exact FIN.out
 have HN : Hid (a.length = 1) := Li (by omega)
 have hn1 : ((a.length : Int) != 1) = false := by rw [bne_eq_false_iff_eq]; omega
 clear hn
 by_cases hop : 19 ≤ op ∧ op ≤ 22
 · obtain ⟨o1, o2⟩ := hop
   have HC := Li (all_of (l := a) (fun x hx => (HIH.out x hx).1) sa sc (deep + 1) l1 w2 HXA.out HO2.out hw2 hbf HK2.out h01 (by omega) (by omega) (by omega))
   go_wp2_with fail
   refine HC.out.mono ?_
   rintro e w3 ⟨y, l3, rfl, hb3, hu3, hl31, hl32, hok3⟩
   have FIN : Hid ((FPost bf lf w (fun n => OkE (.mk 6 op tx v nm a b c d) ∧ (ctE (.mk 6 op tx v nm a b c d) : Int) ≤ n) (.returned (.bool y)) w3)) := Li ⟨y, l3, rfl, hb3, HU2.out.trans hu3, hl31, by omega, fun h => by
     obtain ⟨h03, hP3, hC3⟩ := hok3 h
     refine ⟨h03, ?_, ?_⟩
     · obtain ⟨x, e⟩ := len1 HN.out; rw [HCB.out, e]; rw [e] at hP3; exact .unary _ _ _ _ _ _ _ o1 o2 (hP3 x (by simp))
     · rw [ctE_mk, HCB.out]; simp; omega⟩
   clear HK2 HU2 hb3 hu3 hok3 HC HE2
   go_wp2_with fail
   go_ret
   exact FIN.out
 · have FIN : Hid ((FPost bf lf w (fun n => OkE (.mk 6 op tx v nm a b c d) ∧ (ctE (.mk 6 op tx v nm a b c d) : Int) ≤ n) (.returned (.bool false)) w2)) := Li ⟨false, l1, rfl, HK2.out, HU2.out, by omega, by omega, fun h => by simp at h⟩
   clear HK2 HU2 HE2
   by_cases o1 : 19 ≤ op
   · have o2 : ¬ op ≤ 22 := by omega
     have o3 : decide (op ≤ 22) = false := by simpa using o2
     clear hop
     go_wp2_with fail
     go_ret
     exact FIN.out
   · have o3 : decide (19 ≤ op) = false := by simpa using o1
     clear hop
     go_wp2_with fail
     go_ret
     exact FIN.out
set_option maxHeartbeats 6400000 in
theorem expr_k7 {R : Nat → Nat → Option Value} {B bf : Nat} (op : Int) (tx : ByteArray) (v : VV) (nm : List ByteArray) (a b c d : List Tr) (ma ka sa pa : Option Addr) (mc kc sc pc : Nat) (deep lf : Int) (w : World) (IH : ∀ s ∈ a, FEx R B bf s ∧ ∀ k ∈ s.a, FEx R B bf k) (IHP : ∀ p ∈ b, ∀ k ∈ p.a, FEx R B bf k)
   (hvr : VaR R v [.int .i64 v.kd, .bool v.nb, .slice ma v.ms.length mc, .int .u64 v.ub, .string v.tx, .slice ka v.kn kc]) (hxa : ExL R a (.slice sa a.length sc)) (hpb : PaL R b (.slice pa b.length pc)) (htx : tx.size ≤ maxLen) (ho : Old R B w) (hB : B ≤ w.heap.size) (hbf : B ≤ bf) (hb : Blk w bf 37 [.int .i64 lf]) (h0 : 0 ≤ lf) (h300 : lf ≤ 300) (hd : 0 ≤ deep) (hd2 : deep ≤ 25) :
   Calls Tryz.prog 26 #[.pointer (some ⟨bf, 0, none⟩), .agg #[.int .i64 7, .int .i64 op, .string tx, .int .i64 v.kd, .bool v.nb, .slice ma v.ms.length mc, .int .u64 v.ub, .string v.tx, .slice ka v.kn kc, .slice sa a.length sc, .slice pa b.length pc], .int .i64 deep] w (FPost bf lf w (fun n => OkE (.mk 7 op tx v nm a b c d) ∧ (ctE (.mk 7 op tx v nm a b c d) : Int) ≤ n)) := by
 obtain ⟨W0, hW0⟩ : ∃ W0, W0 = w.alloc (.cells #[.int .i64 7, .int .i64 op, .string tx, .int .i64 v.kd, .bool v.nb, .slice ma v.ms.length mc, .int .u64 v.ub, .string v.tx, .slice ka v.kn kc, .slice sa a.length sc, .slice pa b.length pc] 75) := ⟨_, rfl⟩
 have hu0 : Up (some bf) w W0 := by rw [hW0]; exact (Up.refl (some bf) w).alloc _
 have E0 : Blk W0 w.heap.size 75 [.int .i64 7, .int .i64 op, .string tx, .int .i64 v.kd, .bool v.nb, .slice ma v.ms.length mc, .int .u64 v.ub, .string v.tx, .slice ka v.kn kc, .slice sa a.length sc, .slice pa b.length pc] := by rw [hW0]; exact Blk.new w _ _
 have hbl := hb.lt
 have hK0 : Blk W0 bf 37 [.int .i64 lf] := by rw [hW0]; exact hb.alloc _
 have hW0s : W0.heap.size = w.heap.size + 1 := by rw [hW0]; simp
 have hO0 : Old R B W0 := ho.up hu0 hbf hB
 have hne : w.heap.size ≠ bf := by omega
 have TK := Li (takes_any bf lf deep W0 hK0 h0 h300 hd (by omega))
 have KK : Hid (∀ W, Calls Tryz.prog 29 #[.int .i64 7] W (fun e w' => e = .returned (.int .i64 2) ∧ W = w')) := Li (fun W => by
   have h := treeKids_any 7 W
   have e : tkK 7 = 2 := by decide
   rw [e] at h
   exact h)
 have HU0 := Li hu0; have HK0 := Li hK0; have HE0 := Li E0; have HO := Li ho
 have HIH := Li IH; have HIP := Li IHP; have HXA := Li hxa; have HPB := Li hpb; have HTX := Li htx; have HVR := Li hvr
 clear hu0 E0 hK0 hO0 hb ho IH IHP hxa hpb htx hvr
 have hm : a.length ≤ sc ∧ sc ≤ maxLen := by
   obtain ⟨_, _, e, h1, h2, _⟩ := HXA.out.form
   simp only [Value.slice.injEq, true_and] at e
   rw [e.2]; exact ⟨h1, h2⟩
 unfold maxLen at hm
 obtain ⟨hm1, hm2⟩ := hm
 subst hW0
 go_enter Tryz.func26, Tryz.ntmps26
 go_wp2_with (go_at_call 29; refine (KK.out _).mono ?_; rintro e w' ⟨rfl, rfl⟩)
 refine TK.out.mono ?_
 rintro e w1 ⟨y, l1, rfl, hb1, hu1, hl11, hl12, hok1⟩
 have HK1 := Li hb1
 have HU1 := Li (HU0.out.trans hu1)
 have hE1 := HE0.out.up hu1 (by simp only [ne_eq, Option.some.injEq]; exact hne)
 have f0 := hE1.cell 0 (by simp)
 have f1 := hE1.cell 1 (by simp)
 have f2 := hE1.cell 2 (by simp)
 have f3 := hE1.cell 3 (by simp)
 have f4 := hE1.cell 4 (by simp)
 have f5 := hE1.cell 5 (by simp)
 have f6 := hE1.cell 6 (by simp)
 have f7 := hE1.cell 7 (by simp)
 have f8 := hE1.cell 8 (by simp)
 have f9 := hE1.cell 9 (by simp)
 have f10 := hE1.cell 10 (by simp)
 have HE1 := Li hE1
 have hs1 : w.heap.size < w1.heap.size := hE1.lt
 clear hE1 hb1 hu1 TK HE0 HK0 HU0 KK
 cases y with
 | false =>
   have FIN : Hid ((FPost bf lf w (fun n => OkE (.mk 7 op tx v nm a b c d) ∧ (ctE (.mk 7 op tx v nm a b c d) : Int) ≤ n) (.returned (.bool false)) w1)) := Li ⟨false, l1, rfl, HK1.out, HU1.out, hl11, by omega, fun h => by simp at h⟩
   clear HK1 HU1 hok1 HE1
   go_wp2_with fail
   go_ret
   exact FIN.out
 | true =>
 obtain ⟨h01, hdp, h11⟩ := hok1 rfl
 have HCL := Li (treeClean_any 7 op v.kd v.ub tx v.tx v.nb ma ka sa pa v.ms.length mc v.kn kc a.length sc b.length pc w1)
 clear hok1
 go_wp2_with fail
 refine HCL.out.mono ?_
 rintro e w2 ⟨y, rfl, hcl, hb2⟩
 have HU2 := Li (HU1.out.trans (Up.of_below hb2))
 have HK2 := Li (HK1.out.below hb2 HK1.out.lt)
 have hE2 := HE1.out.below hb2 HE1.out.lt
 have HO2 := Li (HO.out.up HU2.out hbf hB)
 have hw2 : B ≤ w2.heap.size := Nat.le_trans hB HU2.out.size
 have d0 := hE2.cell 0 (by simp)
 have d1 := hE2.cell 1 (by simp)
 have d2 := hE2.cell 2 (by simp)
 have d3 := hE2.cell 3 (by simp)
 have d4 := hE2.cell 4 (by simp)
 have d5 := hE2.cell 5 (by simp)
 have d6 := hE2.cell 6 (by simp)
 have d7 := hE2.cell 7 (by simp)
 have d8 := hE2.cell 8 (by simp)
 have d9 := hE2.cell 9 (by simp)
 have d10 := hE2.cell 10 (by simp)
 have HE2 := Li hE2
 have hs2 : w.heap.size < w2.heap.size := hE2.lt
 have HCN := Li hcl
 clear hE2 hb2 HCL hcl HE1 HK1 HU1 f0 f1 f2 f3 f4 f5 f6 f7 f8 f9 f10
 cases y with
 | false =>
   have FIN : Hid ((FPost bf lf w (fun n => OkE (.mk 7 op tx v nm a b c d) ∧ (ctE (.mk 7 op tx v nm a b c d) : Int) ≤ n) (.returned (.bool false)) w2)) := Li ⟨false, l1, rfl, HK2.out, HU2.out, hl11, by omega, fun h => by simp at h⟩
   clear HK2 HU2 HE2
   go_wp2_with fail
   go_ret
   exact FIN.out
 | true =>
 have HCB : Hid (b = []) := Li (by rcases HCN.out rfl with h | h <;> first | omega | exact len0 h)
 by_cases hn : a.length ≠ 2
 · have FIN : Hid ((FPost bf lf w (fun n => OkE (.mk 7 op tx v nm a b c d) ∧ (ctE (.mk 7 op tx v nm a b c d) : Int) ≤ n) (.returned (.bool false)) w2)) := Li ⟨false, l1, rfl, HK2.out, HU2.out, hl11, by omega, fun h => by simp at h⟩
   have hn1 : ((a.length : Int) != 2) = true := by rw [bne_iff_ne]; omega
   clear HK2 HU2 HE2 hn
   go_wp2_with fail
   go_ret
   exact FIN.out
 have HN : Hid (a.length = 2) := Li (by omega)
 have hn1 : ((a.length : Int) != 2) = false := by rw [bne_eq_false_iff_eq]; omega
 clear hn
 by_cases hop : 0 ≤ op ∧ op ≤ 18
 · obtain ⟨o1, o2⟩ := hop
   have HC := Li (all_of (l := a) (fun x hx => (HIH.out x hx).1) sa sc (deep + 1) l1 w2 HXA.out HO2.out hw2 hbf HK2.out h01 (by omega) (by omega) (by omega))
   go_wp2_with fail
   refine HC.out.mono ?_
   rintro e w3 ⟨y, l3, rfl, hb3, hu3, hl31, hl32, hok3⟩
   have FIN : Hid ((FPost bf lf w (fun n => OkE (.mk 7 op tx v nm a b c d) ∧ (ctE (.mk 7 op tx v nm a b c d) : Int) ≤ n) (.returned (.bool y)) w3)) := Li ⟨y, l3, rfl, hb3, HU2.out.trans hu3, hl31, by omega, fun h => by
     obtain ⟨h03, hP3, hC3⟩ := hok3 h
     refine ⟨h03, ?_, ?_⟩
     · obtain ⟨x, y, e⟩ := len2 HN.out; rw [HCB.out, e]; rw [e] at hP3; exact .binary _ _ _ _ _ _ _ _ o1 o2 (hP3 x (by simp)) (hP3 y (by simp))
     · rw [ctE_mk, HCB.out]; simp; omega⟩
   clear HK2 HU2 hb3 hu3 hok3 HC HE2
   go_wp2_with fail
   go_ret
   exact FIN.out
 · have FIN : Hid ((FPost bf lf w (fun n => OkE (.mk 7 op tx v nm a b c d) ∧ (ctE (.mk 7 op tx v nm a b c d) : Int) ≤ n) (.returned (.bool false)) w2)) := Li ⟨false, l1, rfl, HK2.out, HU2.out, by omega, by omega, fun h => by simp at h⟩
   clear HK2 HU2 HE2
   by_cases o1 : 0 ≤ op
   · have o2 : ¬ op ≤ 18 := by omega
     have o3 : decide (op ≤ 18) = false := by simpa using o2
     clear hop
     go_wp2_with fail
     go_ret
     exact FIN.out
   · have o3 : decide (0 ≤ op) = false := by simpa using o1
     clear hop
     go_wp2_with fail
     go_ret
     exact FIN.out
set_option maxHeartbeats 6400000 in
theorem expr_k8 {R : Nat → Nat → Option Value} {B bf : Nat} (op : Int) (tx : ByteArray) (v : VV) (nm : List ByteArray) (a b c d : List Tr) (ma ka sa pa : Option Addr) (mc kc sc pc : Nat) (deep lf : Int) (w : World) (IH : ∀ s ∈ a, FEx R B bf s ∧ ∀ k ∈ s.a, FEx R B bf k) (IHP : ∀ p ∈ b, ∀ k ∈ p.a, FEx R B bf k)
   (hvr : VaR R v [.int .i64 v.kd, .bool v.nb, .slice ma v.ms.length mc, .int .u64 v.ub, .string v.tx, .slice ka v.kn kc]) (hxa : ExL R a (.slice sa a.length sc)) (hpb : PaL R b (.slice pa b.length pc)) (htx : tx.size ≤ maxLen) (ho : Old R B w) (hB : B ≤ w.heap.size) (hbf : B ≤ bf) (hb : Blk w bf 37 [.int .i64 lf]) (h0 : 0 ≤ lf) (h300 : lf ≤ 300) (hd : 0 ≤ deep) (hd2 : deep ≤ 25) :
   Calls Tryz.prog 26 #[.pointer (some ⟨bf, 0, none⟩), .agg #[.int .i64 8, .int .i64 op, .string tx, .int .i64 v.kd, .bool v.nb, .slice ma v.ms.length mc, .int .u64 v.ub, .string v.tx, .slice ka v.kn kc, .slice sa a.length sc, .slice pa b.length pc], .int .i64 deep] w (FPost bf lf w (fun n => OkE (.mk 8 op tx v nm a b c d) ∧ (ctE (.mk 8 op tx v nm a b c d) : Int) ≤ n)) := by
 obtain ⟨W0, hW0⟩ : ∃ W0, W0 = w.alloc (.cells #[.int .i64 8, .int .i64 op, .string tx, .int .i64 v.kd, .bool v.nb, .slice ma v.ms.length mc, .int .u64 v.ub, .string v.tx, .slice ka v.kn kc, .slice sa a.length sc, .slice pa b.length pc] 75) := ⟨_, rfl⟩
 have hu0 : Up (some bf) w W0 := by rw [hW0]; exact (Up.refl (some bf) w).alloc _
 have E0 : Blk W0 w.heap.size 75 [.int .i64 8, .int .i64 op, .string tx, .int .i64 v.kd, .bool v.nb, .slice ma v.ms.length mc, .int .u64 v.ub, .string v.tx, .slice ka v.kn kc, .slice sa a.length sc, .slice pa b.length pc] := by rw [hW0]; exact Blk.new w _ _
 have hbl := hb.lt
 have hK0 : Blk W0 bf 37 [.int .i64 lf] := by rw [hW0]; exact hb.alloc _
 have hW0s : W0.heap.size = w.heap.size + 1 := by rw [hW0]; simp
 have hO0 : Old R B W0 := ho.up hu0 hbf hB
 have hne : w.heap.size ≠ bf := by omega
 have TK := Li (takes_any bf lf deep W0 hK0 h0 h300 hd (by omega))
 have KK : Hid (∀ W, Calls Tryz.prog 29 #[.int .i64 8] W (fun e w' => e = .returned (.int .i64 2) ∧ W = w')) := Li (fun W => by
   have h := treeKids_any 8 W
   have e : tkK 8 = 2 := by decide
   rw [e] at h
   exact h)
 have HU0 := Li hu0; have HK0 := Li hK0; have HE0 := Li E0; have HO := Li ho
 have HIH := Li IH; have HIP := Li IHP; have HXA := Li hxa; have HPB := Li hpb; have HTX := Li htx; have HVR := Li hvr
 clear hu0 E0 hK0 hO0 hb ho IH IHP hxa hpb htx hvr
 have hm : a.length ≤ sc ∧ sc ≤ maxLen := by
   obtain ⟨_, _, e, h1, h2, _⟩ := HXA.out.form
   simp only [Value.slice.injEq, true_and] at e
   rw [e.2]; exact ⟨h1, h2⟩
 unfold maxLen at hm
 obtain ⟨hm1, hm2⟩ := hm
 subst hW0
 go_enter Tryz.func26, Tryz.ntmps26
 go_wp2_with (go_at_call 29; refine (KK.out _).mono ?_; rintro e w' ⟨rfl, rfl⟩)
 refine TK.out.mono ?_
 rintro e w1 ⟨y, l1, rfl, hb1, hu1, hl11, hl12, hok1⟩
 have HK1 := Li hb1
 have HU1 := Li (HU0.out.trans hu1)
 have hE1 := HE0.out.up hu1 (by simp only [ne_eq, Option.some.injEq]; exact hne)
 have f0 := hE1.cell 0 (by simp)
 have f1 := hE1.cell 1 (by simp)
 have f2 := hE1.cell 2 (by simp)
 have f3 := hE1.cell 3 (by simp)
 have f4 := hE1.cell 4 (by simp)
 have f5 := hE1.cell 5 (by simp)
 have f6 := hE1.cell 6 (by simp)
 have f7 := hE1.cell 7 (by simp)
 have f8 := hE1.cell 8 (by simp)
 have f9 := hE1.cell 9 (by simp)
 have f10 := hE1.cell 10 (by simp)
 have HE1 := Li hE1
 have hs1 : w.heap.size < w1.heap.size := hE1.lt
 clear hE1 hb1 hu1 TK HE0 HK0 HU0 KK
 cases y with
 | false =>
   have FIN : Hid ((FPost bf lf w (fun n => OkE (.mk 8 op tx v nm a b c d) ∧ (ctE (.mk 8 op tx v nm a b c d) : Int) ≤ n) (.returned (.bool false)) w1)) := Li ⟨false, l1, rfl, HK1.out, HU1.out, hl11, by omega, fun h => by simp at h⟩
   clear HK1 HU1 hok1 HE1
   go_wp2_with fail
   go_ret
   exact FIN.out
 | true =>
 obtain ⟨h01, hdp, h11⟩ := hok1 rfl
 have HCL := Li (treeClean_any 8 op v.kd v.ub tx v.tx v.nb ma ka sa pa v.ms.length mc v.kn kc a.length sc b.length pc w1)
 clear hok1
 go_wp2_with fail
 refine HCL.out.mono ?_
 rintro e w2 ⟨y, rfl, hcl, hb2⟩
 have HU2 := Li (HU1.out.trans (Up.of_below hb2))
 have HK2 := Li (HK1.out.below hb2 HK1.out.lt)
 have hE2 := HE1.out.below hb2 HE1.out.lt
 have HO2 := Li (HO.out.up HU2.out hbf hB)
 have hw2 : B ≤ w2.heap.size := Nat.le_trans hB HU2.out.size
 have d0 := hE2.cell 0 (by simp)
 have d1 := hE2.cell 1 (by simp)
 have d2 := hE2.cell 2 (by simp)
 have d3 := hE2.cell 3 (by simp)
 have d4 := hE2.cell 4 (by simp)
 have d5 := hE2.cell 5 (by simp)
 have d6 := hE2.cell 6 (by simp)
 have d7 := hE2.cell 7 (by simp)
 have d8 := hE2.cell 8 (by simp)
 have d9 := hE2.cell 9 (by simp)
 have d10 := hE2.cell 10 (by simp)
 have HE2 := Li hE2
 have hs2 : w.heap.size < w2.heap.size := hE2.lt
 have HCN := Li hcl
 clear hE2 hb2 HCL hcl HE1 HK1 HU1 f0 f1 f2 f3 f4 f5 f6 f7 f8 f9 f10
 cases y with
 | false =>
   have FIN : Hid ((FPost bf lf w (fun n => OkE (.mk 8 op tx v nm a b c d) ∧ (ctE (.mk 8 op tx v nm a b c d) : Int) ≤ n) (.returned (.bool false)) w2)) := Li ⟨false, l1, rfl, HK2.out, HU2.out, hl11, by omega, fun h => by simp at h⟩
   clear HK2 HU2 HE2
   go_wp2_with fail
   go_ret
   exact FIN.out
 | true =>
 have HCB : Hid (b = []) := Li (by rcases HCN.out rfl with h | h <;> first | omega | exact len0 h)
 by_cases hn : a.length ≠ 2
 · have FIN : Hid ((FPost bf lf w (fun n => OkE (.mk 8 op tx v nm a b c d) ∧ (ctE (.mk 8 op tx v nm a b c d) : Int) ≤ n) (.returned (.bool false)) w2)) := Li ⟨false, l1, rfl, HK2.out, HU2.out, hl11, by omega, fun h => by simp at h⟩
   have hn1 : ((a.length : Int) != 2) = true := by rw [bne_iff_ne]; omega
   clear HK2 HU2 HE2 hn
   go_wp2_with fail
   go_ret
   exact FIN.out
 have HN : Hid (a.length = 2) := Li (by omega)
 have hn1 : ((a.length : Int) != 2) = false := by rw [bne_eq_false_iff_eq]; omega
 clear hn
 have HC := Li (all_of (l := a) (fun x hx => (HIH.out x hx).1) sa sc (deep + 1) l1 w2 HXA.out HO2.out hw2 hbf HK2.out h01 (by omega) (by omega) (by omega))
 go_wp2_with fail
 refine HC.out.mono ?_
 rintro e w3 ⟨y, l3, rfl, hb3, hu3, hl31, hl32, hok3⟩
 have FIN : Hid ((FPost bf lf w (fun n => OkE (.mk 8 op tx v nm a b c d) ∧ (ctE (.mk 8 op tx v nm a b c d) : Int) ≤ n) (.returned (.bool y)) w3)) := Li ⟨y, l3, rfl, hb3, HU2.out.trans hu3, hl31, by omega, fun h => by
   obtain ⟨h03, hP3, hC3⟩ := hok3 h
   refine ⟨h03, ?_, ?_⟩
   · obtain ⟨x, y, e⟩ := len2 HN.out; rw [HCB.out, e]; rw [e] at hP3; exact .two _ _ _ _ _ _ _ _ _ (by omega) (hP3 x (by simp)) (hP3 y (by simp))
   · rw [ctE_mk, HCB.out]; simp; omega⟩
 clear HK2 HU2 hb3 hu3 hok3 HC HE2
 go_wp2_with fail
 go_ret
 exact FIN.out
set_option maxHeartbeats 6400000 in
theorem expr_k9 {R : Nat → Nat → Option Value} {B bf : Nat} (op : Int) (tx : ByteArray) (v : VV) (nm : List ByteArray) (a b c d : List Tr) (ma ka sa pa : Option Addr) (mc kc sc pc : Nat) (deep lf : Int) (w : World) (IH : ∀ s ∈ a, FEx R B bf s ∧ ∀ k ∈ s.a, FEx R B bf k) (IHP : ∀ p ∈ b, ∀ k ∈ p.a, FEx R B bf k)
   (hvr : VaR R v [.int .i64 v.kd, .bool v.nb, .slice ma v.ms.length mc, .int .u64 v.ub, .string v.tx, .slice ka v.kn kc]) (hxa : ExL R a (.slice sa a.length sc)) (hpb : PaL R b (.slice pa b.length pc)) (htx : tx.size ≤ maxLen) (ho : Old R B w) (hB : B ≤ w.heap.size) (hbf : B ≤ bf) (hb : Blk w bf 37 [.int .i64 lf]) (h0 : 0 ≤ lf) (h300 : lf ≤ 300) (hd : 0 ≤ deep) (hd2 : deep ≤ 25) :
   Calls Tryz.prog 26 #[.pointer (some ⟨bf, 0, none⟩), .agg #[.int .i64 9, .int .i64 op, .string tx, .int .i64 v.kd, .bool v.nb, .slice ma v.ms.length mc, .int .u64 v.ub, .string v.tx, .slice ka v.kn kc, .slice sa a.length sc, .slice pa b.length pc], .int .i64 deep] w (FPost bf lf w (fun n => OkE (.mk 9 op tx v nm a b c d) ∧ (ctE (.mk 9 op tx v nm a b c d) : Int) ≤ n)) := by
 obtain ⟨W0, hW0⟩ : ∃ W0, W0 = w.alloc (.cells #[.int .i64 9, .int .i64 op, .string tx, .int .i64 v.kd, .bool v.nb, .slice ma v.ms.length mc, .int .u64 v.ub, .string v.tx, .slice ka v.kn kc, .slice sa a.length sc, .slice pa b.length pc] 75) := ⟨_, rfl⟩
 have hu0 : Up (some bf) w W0 := by rw [hW0]; exact (Up.refl (some bf) w).alloc _
 have E0 : Blk W0 w.heap.size 75 [.int .i64 9, .int .i64 op, .string tx, .int .i64 v.kd, .bool v.nb, .slice ma v.ms.length mc, .int .u64 v.ub, .string v.tx, .slice ka v.kn kc, .slice sa a.length sc, .slice pa b.length pc] := by rw [hW0]; exact Blk.new w _ _
 have hbl := hb.lt
 have hK0 : Blk W0 bf 37 [.int .i64 lf] := by rw [hW0]; exact hb.alloc _
 have hW0s : W0.heap.size = w.heap.size + 1 := by rw [hW0]; simp
 have hO0 : Old R B W0 := ho.up hu0 hbf hB
 have hne : w.heap.size ≠ bf := by omega
 have TK := Li (takes_any bf lf deep W0 hK0 h0 h300 hd (by omega))
 have KK : Hid (∀ W, Calls Tryz.prog 29 #[.int .i64 9] W (fun e w' => e = .returned (.int .i64 2) ∧ W = w')) := Li (fun W => by
   have h := treeKids_any 9 W
   have e : tkK 9 = 2 := by decide
   rw [e] at h
   exact h)
 have HU0 := Li hu0; have HK0 := Li hK0; have HE0 := Li E0; have HO := Li ho
 have HIH := Li IH; have HIP := Li IHP; have HXA := Li hxa; have HPB := Li hpb; have HTX := Li htx; have HVR := Li hvr
 clear hu0 E0 hK0 hO0 hb ho IH IHP hxa hpb htx hvr
 have hm : a.length ≤ sc ∧ sc ≤ maxLen := by
   obtain ⟨_, _, e, h1, h2, _⟩ := HXA.out.form
   simp only [Value.slice.injEq, true_and] at e
   rw [e.2]; exact ⟨h1, h2⟩
 unfold maxLen at hm
 obtain ⟨hm1, hm2⟩ := hm
 subst hW0
 go_enter Tryz.func26, Tryz.ntmps26
 go_wp2_with (go_at_call 29; refine (KK.out _).mono ?_; rintro e w' ⟨rfl, rfl⟩)
 refine TK.out.mono ?_
 rintro e w1 ⟨y, l1, rfl, hb1, hu1, hl11, hl12, hok1⟩
 have HK1 := Li hb1
 have HU1 := Li (HU0.out.trans hu1)
 have hE1 := HE0.out.up hu1 (by simp only [ne_eq, Option.some.injEq]; exact hne)
 have f0 := hE1.cell 0 (by simp)
 have f1 := hE1.cell 1 (by simp)
 have f2 := hE1.cell 2 (by simp)
 have f3 := hE1.cell 3 (by simp)
 have f4 := hE1.cell 4 (by simp)
 have f5 := hE1.cell 5 (by simp)
 have f6 := hE1.cell 6 (by simp)
 have f7 := hE1.cell 7 (by simp)
 have f8 := hE1.cell 8 (by simp)
 have f9 := hE1.cell 9 (by simp)
 have f10 := hE1.cell 10 (by simp)
 have HE1 := Li hE1
 have hs1 : w.heap.size < w1.heap.size := hE1.lt
 clear hE1 hb1 hu1 TK HE0 HK0 HU0 KK
 cases y with
 | false =>
   have FIN : Hid ((FPost bf lf w (fun n => OkE (.mk 9 op tx v nm a b c d) ∧ (ctE (.mk 9 op tx v nm a b c d) : Int) ≤ n) (.returned (.bool false)) w1)) := Li ⟨false, l1, rfl, HK1.out, HU1.out, hl11, by omega, fun h => by simp at h⟩
   clear HK1 HU1 hok1 HE1
   go_wp2_with fail
   go_ret
   exact FIN.out
 | true =>
 obtain ⟨h01, hdp, h11⟩ := hok1 rfl
 have HCL := Li (treeClean_any 9 op v.kd v.ub tx v.tx v.nb ma ka sa pa v.ms.length mc v.kn kc a.length sc b.length pc w1)
 clear hok1
 go_wp2_with fail
 refine HCL.out.mono ?_
 rintro e w2 ⟨y, rfl, hcl, hb2⟩
 have HU2 := Li (HU1.out.trans (Up.of_below hb2))
 have HK2 := Li (HK1.out.below hb2 HK1.out.lt)
 have hE2 := HE1.out.below hb2 HE1.out.lt
 have HO2 := Li (HO.out.up HU2.out hbf hB)
 have hw2 : B ≤ w2.heap.size := Nat.le_trans hB HU2.out.size
 have d0 := hE2.cell 0 (by simp)
 have d1 := hE2.cell 1 (by simp)
 have d2 := hE2.cell 2 (by simp)
 have d3 := hE2.cell 3 (by simp)
 have d4 := hE2.cell 4 (by simp)
 have d5 := hE2.cell 5 (by simp)
 have d6 := hE2.cell 6 (by simp)
 have d7 := hE2.cell 7 (by simp)
 have d8 := hE2.cell 8 (by simp)
 have d9 := hE2.cell 9 (by simp)
 have d10 := hE2.cell 10 (by simp)
 have HE2 := Li hE2
 have hs2 : w.heap.size < w2.heap.size := hE2.lt
 have HCN := Li hcl
 clear hE2 hb2 HCL hcl HE1 HK1 HU1 f0 f1 f2 f3 f4 f5 f6 f7 f8 f9 f10
 cases y with
 | false =>
   have FIN : Hid ((FPost bf lf w (fun n => OkE (.mk 9 op tx v nm a b c d) ∧ (ctE (.mk 9 op tx v nm a b c d) : Int) ≤ n) (.returned (.bool false)) w2)) := Li ⟨false, l1, rfl, HK2.out, HU2.out, hl11, by omega, fun h => by simp at h⟩
   clear HK2 HU2 HE2
   go_wp2_with fail
   go_ret
   exact FIN.out
 | true =>
 have HCB : Hid (b = []) := Li (by rcases HCN.out rfl with h | h <;> first | omega | exact len0 h)
 by_cases hn : a.length ≠ 2
 · have FIN : Hid ((FPost bf lf w (fun n => OkE (.mk 9 op tx v nm a b c d) ∧ (ctE (.mk 9 op tx v nm a b c d) : Int) ≤ n) (.returned (.bool false)) w2)) := Li ⟨false, l1, rfl, HK2.out, HU2.out, hl11, by omega, fun h => by simp at h⟩
   have hn1 : ((a.length : Int) != 2) = true := by rw [bne_iff_ne]; omega
   clear HK2 HU2 HE2 hn
   go_wp2_with fail
   go_ret
   exact FIN.out
 have HN : Hid (a.length = 2) := Li (by omega)
 have hn1 : ((a.length : Int) != 2) = false := by rw [bne_eq_false_iff_eq]; omega
 clear hn
 have HC := Li (all_of (l := a) (fun x hx => (HIH.out x hx).1) sa sc (deep + 1) l1 w2 HXA.out HO2.out hw2 hbf HK2.out h01 (by omega) (by omega) (by omega))
 go_wp2_with fail
 refine HC.out.mono ?_
 rintro e w3 ⟨y, l3, rfl, hb3, hu3, hl31, hl32, hok3⟩
 have FIN : Hid ((FPost bf lf w (fun n => OkE (.mk 9 op tx v nm a b c d) ∧ (ctE (.mk 9 op tx v nm a b c d) : Int) ≤ n) (.returned (.bool y)) w3)) := Li ⟨y, l3, rfl, hb3, HU2.out.trans hu3, hl31, by omega, fun h => by
   obtain ⟨h03, hP3, hC3⟩ := hok3 h
   refine ⟨h03, ?_, ?_⟩
   · obtain ⟨x, y, e⟩ := len2 HN.out; rw [HCB.out, e]; rw [e] at hP3; exact .two _ _ _ _ _ _ _ _ _ (by omega) (hP3 x (by simp)) (hP3 y (by simp))
   · rw [ctE_mk, HCB.out]; simp; omega⟩
 clear HK2 HU2 hb3 hu3 hok3 HC HE2
 go_wp2_with fail
 go_ret
 exact FIN.out
set_option maxHeartbeats 6400000 in
theorem expr_k10 {R : Nat → Nat → Option Value} {B bf : Nat} (op : Int) (tx : ByteArray) (v : VV) (nm : List ByteArray) (a b c d : List Tr) (ma ka sa pa : Option Addr) (mc kc sc pc : Nat) (deep lf : Int) (w : World) (IH : ∀ s ∈ a, FEx R B bf s ∧ ∀ k ∈ s.a, FEx R B bf k) (IHP : ∀ p ∈ b, ∀ k ∈ p.a, FEx R B bf k)
   (hvr : VaR R v [.int .i64 v.kd, .bool v.nb, .slice ma v.ms.length mc, .int .u64 v.ub, .string v.tx, .slice ka v.kn kc]) (hxa : ExL R a (.slice sa a.length sc)) (hpb : PaL R b (.slice pa b.length pc)) (htx : tx.size ≤ maxLen) (ho : Old R B w) (hB : B ≤ w.heap.size) (hbf : B ≤ bf) (hb : Blk w bf 37 [.int .i64 lf]) (h0 : 0 ≤ lf) (h300 : lf ≤ 300) (hd : 0 ≤ deep) (hd2 : deep ≤ 25) :
   Calls Tryz.prog 26 #[.pointer (some ⟨bf, 0, none⟩), .agg #[.int .i64 10, .int .i64 op, .string tx, .int .i64 v.kd, .bool v.nb, .slice ma v.ms.length mc, .int .u64 v.ub, .string v.tx, .slice ka v.kn kc, .slice sa a.length sc, .slice pa b.length pc], .int .i64 deep] w (FPost bf lf w (fun n => OkE (.mk 10 op tx v nm a b c d) ∧ (ctE (.mk 10 op tx v nm a b c d) : Int) ≤ n)) := by
 obtain ⟨W0, hW0⟩ : ∃ W0, W0 = w.alloc (.cells #[.int .i64 10, .int .i64 op, .string tx, .int .i64 v.kd, .bool v.nb, .slice ma v.ms.length mc, .int .u64 v.ub, .string v.tx, .slice ka v.kn kc, .slice sa a.length sc, .slice pa b.length pc] 75) := ⟨_, rfl⟩
 have hu0 : Up (some bf) w W0 := by rw [hW0]; exact (Up.refl (some bf) w).alloc _
 have E0 : Blk W0 w.heap.size 75 [.int .i64 10, .int .i64 op, .string tx, .int .i64 v.kd, .bool v.nb, .slice ma v.ms.length mc, .int .u64 v.ub, .string v.tx, .slice ka v.kn kc, .slice sa a.length sc, .slice pa b.length pc] := by rw [hW0]; exact Blk.new w _ _
 have hbl := hb.lt
 have hK0 : Blk W0 bf 37 [.int .i64 lf] := by rw [hW0]; exact hb.alloc _
 have hW0s : W0.heap.size = w.heap.size + 1 := by rw [hW0]; simp
 have hO0 : Old R B W0 := ho.up hu0 hbf hB
 have hne : w.heap.size ≠ bf := by omega
 have TK := Li (takes_any bf lf deep W0 hK0 h0 h300 hd (by omega))
 have KK : Hid (∀ W, Calls Tryz.prog 29 #[.int .i64 10] W (fun e w' => e = .returned (.int .i64 3) ∧ W = w')) := Li (fun W => by
   have h := treeKids_any 10 W
   have e : tkK 10 = 3 := by decide
   rw [e] at h
   exact h)
 have HU0 := Li hu0; have HK0 := Li hK0; have HE0 := Li E0; have HO := Li ho
 have HIH := Li IH; have HIP := Li IHP; have HXA := Li hxa; have HPB := Li hpb; have HTX := Li htx; have HVR := Li hvr
 clear hu0 E0 hK0 hO0 hb ho IH IHP hxa hpb htx hvr
 have hm : a.length ≤ sc ∧ sc ≤ maxLen := by
   obtain ⟨_, _, e, h1, h2, _⟩ := HXA.out.form
   simp only [Value.slice.injEq, true_and] at e
   rw [e.2]; exact ⟨h1, h2⟩
 unfold maxLen at hm
 obtain ⟨hm1, hm2⟩ := hm
 subst hW0
 go_enter Tryz.func26, Tryz.ntmps26
 go_wp2_with (go_at_call 29; refine (KK.out _).mono ?_; rintro e w' ⟨rfl, rfl⟩)
 refine TK.out.mono ?_
 rintro e w1 ⟨y, l1, rfl, hb1, hu1, hl11, hl12, hok1⟩
 have HK1 := Li hb1
 have HU1 := Li (HU0.out.trans hu1)
 have hE1 := HE0.out.up hu1 (by simp only [ne_eq, Option.some.injEq]; exact hne)
 have f0 := hE1.cell 0 (by simp)
 have f1 := hE1.cell 1 (by simp)
 have f2 := hE1.cell 2 (by simp)
 have f3 := hE1.cell 3 (by simp)
 have f4 := hE1.cell 4 (by simp)
 have f5 := hE1.cell 5 (by simp)
 have f6 := hE1.cell 6 (by simp)
 have f7 := hE1.cell 7 (by simp)
 have f8 := hE1.cell 8 (by simp)
 have f9 := hE1.cell 9 (by simp)
 have f10 := hE1.cell 10 (by simp)
 have HE1 := Li hE1
 have hs1 : w.heap.size < w1.heap.size := hE1.lt
 clear hE1 hb1 hu1 TK HE0 HK0 HU0 KK
 cases y with
 | false =>
   have FIN : Hid ((FPost bf lf w (fun n => OkE (.mk 10 op tx v nm a b c d) ∧ (ctE (.mk 10 op tx v nm a b c d) : Int) ≤ n) (.returned (.bool false)) w1)) := Li ⟨false, l1, rfl, HK1.out, HU1.out, hl11, by omega, fun h => by simp at h⟩
   clear HK1 HU1 hok1 HE1
   go_wp2_with fail
   go_ret
   exact FIN.out
 | true =>
 obtain ⟨h01, hdp, h11⟩ := hok1 rfl
 have HCL := Li (treeClean_any 10 op v.kd v.ub tx v.tx v.nb ma ka sa pa v.ms.length mc v.kn kc a.length sc b.length pc w1)
 clear hok1
 go_wp2_with fail
 refine HCL.out.mono ?_
 rintro e w2 ⟨y, rfl, hcl, hb2⟩
 have HU2 := Li (HU1.out.trans (Up.of_below hb2))
 have HK2 := Li (HK1.out.below hb2 HK1.out.lt)
 have hE2 := HE1.out.below hb2 HE1.out.lt
 have HO2 := Li (HO.out.up HU2.out hbf hB)
 have hw2 : B ≤ w2.heap.size := Nat.le_trans hB HU2.out.size
 have d0 := hE2.cell 0 (by simp)
 have d1 := hE2.cell 1 (by simp)
 have d2 := hE2.cell 2 (by simp)
 have d3 := hE2.cell 3 (by simp)
 have d4 := hE2.cell 4 (by simp)
 have d5 := hE2.cell 5 (by simp)
 have d6 := hE2.cell 6 (by simp)
 have d7 := hE2.cell 7 (by simp)
 have d8 := hE2.cell 8 (by simp)
 have d9 := hE2.cell 9 (by simp)
 have d10 := hE2.cell 10 (by simp)
 have HE2 := Li hE2
 have hs2 : w.heap.size < w2.heap.size := hE2.lt
 have HCN := Li hcl
 clear hE2 hb2 HCL hcl HE1 HK1 HU1 f0 f1 f2 f3 f4 f5 f6 f7 f8 f9 f10
 cases y with
 | false =>
   have FIN : Hid ((FPost bf lf w (fun n => OkE (.mk 10 op tx v nm a b c d) ∧ (ctE (.mk 10 op tx v nm a b c d) : Int) ≤ n) (.returned (.bool false)) w2)) := Li ⟨false, l1, rfl, HK2.out, HU2.out, hl11, by omega, fun h => by simp at h⟩
   clear HK2 HU2 HE2
   go_wp2_with fail
   go_ret
   exact FIN.out
 | true =>
 have HCB : Hid (b = []) := Li (by rcases HCN.out rfl with h | h <;> first | omega | exact len0 h)
 by_cases hn : a.length ≠ 3
 · have FIN : Hid ((FPost bf lf w (fun n => OkE (.mk 10 op tx v nm a b c d) ∧ (ctE (.mk 10 op tx v nm a b c d) : Int) ≤ n) (.returned (.bool false)) w2)) := Li ⟨false, l1, rfl, HK2.out, HU2.out, hl11, by omega, fun h => by simp at h⟩
   have hn1 : ((a.length : Int) != 3) = true := by rw [bne_iff_ne]; omega
   clear HK2 HU2 HE2 hn
   go_wp2_with fail
   go_ret
   exact FIN.out
 have HN : Hid (a.length = 3) := Li (by omega)
 have hn1 : ((a.length : Int) != 3) = false := by rw [bne_eq_false_iff_eq]; omega
 clear hn
 have HC := Li (all_of (l := a) (fun x hx => (HIH.out x hx).1) sa sc (deep + 1) l1 w2 HXA.out HO2.out hw2 hbf HK2.out h01 (by omega) (by omega) (by omega))
 go_wp2_with fail
 refine HC.out.mono ?_
 rintro e w3 ⟨y, l3, rfl, hb3, hu3, hl31, hl32, hok3⟩
 have FIN : Hid ((FPost bf lf w (fun n => OkE (.mk 10 op tx v nm a b c d) ∧ (ctE (.mk 10 op tx v nm a b c d) : Int) ≤ n) (.returned (.bool y)) w3)) := Li ⟨y, l3, rfl, hb3, HU2.out.trans hu3, hl31, by omega, fun h => by
   obtain ⟨h03, hP3, hC3⟩ := hok3 h
   refine ⟨h03, ?_, ?_⟩
   · obtain ⟨x, y, z, e⟩ := len3 HN.out; rw [HCB.out, e]; rw [e] at hP3; exact .cond _ _ _ _ _ _ _ _ _ (hP3 x (by simp)) (hP3 y (by simp)) (hP3 z (by simp))
   · rw [ctE_mk, HCB.out]; simp; omega⟩
 clear HK2 HU2 hb3 hu3 hok3 HC HE2
 go_wp2_with fail
 go_ret
 exact FIN.out
set_option maxHeartbeats 6400000 in
theorem expr_k11 {R : Nat → Nat → Option Value} {B bf : Nat} (op : Int) (tx : ByteArray) (v : VV) (nm : List ByteArray) (a b c d : List Tr) (ma ka sa pa : Option Addr) (mc kc sc pc : Nat) (deep lf : Int) (w : World) (IH : ∀ s ∈ a, FEx R B bf s ∧ ∀ k ∈ s.a, FEx R B bf k) (IHP : ∀ p ∈ b, ∀ k ∈ p.a, FEx R B bf k)
   (hvr : VaR R v [.int .i64 v.kd, .bool v.nb, .slice ma v.ms.length mc, .int .u64 v.ub, .string v.tx, .slice ka v.kn kc]) (hxa : ExL R a (.slice sa a.length sc)) (hpb : PaL R b (.slice pa b.length pc)) (htx : tx.size ≤ maxLen) (ho : Old R B w) (hB : B ≤ w.heap.size) (hbf : B ≤ bf) (hb : Blk w bf 37 [.int .i64 lf]) (h0 : 0 ≤ lf) (h300 : lf ≤ 300) (hd : 0 ≤ deep) (hd2 : deep ≤ 25) :
   Calls Tryz.prog 26 #[.pointer (some ⟨bf, 0, none⟩), .agg #[.int .i64 11, .int .i64 op, .string tx, .int .i64 v.kd, .bool v.nb, .slice ma v.ms.length mc, .int .u64 v.ub, .string v.tx, .slice ka v.kn kc, .slice sa a.length sc, .slice pa b.length pc], .int .i64 deep] w (FPost bf lf w (fun n => OkE (.mk 11 op tx v nm a b c d) ∧ (ctE (.mk 11 op tx v nm a b c d) : Int) ≤ n)) := by
 obtain ⟨W0, hW0⟩ : ∃ W0, W0 = w.alloc (.cells #[.int .i64 11, .int .i64 op, .string tx, .int .i64 v.kd, .bool v.nb, .slice ma v.ms.length mc, .int .u64 v.ub, .string v.tx, .slice ka v.kn kc, .slice sa a.length sc, .slice pa b.length pc] 75) := ⟨_, rfl⟩
 have hu0 : Up (some bf) w W0 := by rw [hW0]; exact (Up.refl (some bf) w).alloc _
 have E0 : Blk W0 w.heap.size 75 [.int .i64 11, .int .i64 op, .string tx, .int .i64 v.kd, .bool v.nb, .slice ma v.ms.length mc, .int .u64 v.ub, .string v.tx, .slice ka v.kn kc, .slice sa a.length sc, .slice pa b.length pc] := by rw [hW0]; exact Blk.new w _ _
 have hbl := hb.lt
 have hK0 : Blk W0 bf 37 [.int .i64 lf] := by rw [hW0]; exact hb.alloc _
 have hW0s : W0.heap.size = w.heap.size + 1 := by rw [hW0]; simp
 have hO0 : Old R B W0 := ho.up hu0 hbf hB
 have hne : w.heap.size ≠ bf := by omega
 have TK := Li (takes_any bf lf deep W0 hK0 h0 h300 hd (by omega))
 have KK : Hid (∀ W, Calls Tryz.prog 29 #[.int .i64 11] W (fun e w' => e = .returned (.int .i64 2) ∧ W = w')) := Li (fun W => by
   have h := treeKids_any 11 W
   have e : tkK 11 = 2 := by decide
   rw [e] at h
   exact h)
 have HU0 := Li hu0; have HK0 := Li hK0; have HE0 := Li E0; have HO := Li ho
 have HIH := Li IH; have HIP := Li IHP; have HXA := Li hxa; have HPB := Li hpb; have HTX := Li htx; have HVR := Li hvr
 clear hu0 E0 hK0 hO0 hb ho IH IHP hxa hpb htx hvr
 have hm : a.length ≤ sc ∧ sc ≤ maxLen := by
   obtain ⟨_, _, e, h1, h2, _⟩ := HXA.out.form
   simp only [Value.slice.injEq, true_and] at e
   rw [e.2]; exact ⟨h1, h2⟩
 unfold maxLen at hm
 obtain ⟨hm1, hm2⟩ := hm
 subst hW0
 go_enter Tryz.func26, Tryz.ntmps26
 go_wp2_with (go_at_call 29; refine (KK.out _).mono ?_; rintro e w' ⟨rfl, rfl⟩)
 refine TK.out.mono ?_
 rintro e w1 ⟨y, l1, rfl, hb1, hu1, hl11, hl12, hok1⟩
 have HK1 := Li hb1
 have HU1 := Li (HU0.out.trans hu1)
 have hE1 := HE0.out.up hu1 (by simp only [ne_eq, Option.some.injEq]; exact hne)
 have f0 := hE1.cell 0 (by simp)
 have f1 := hE1.cell 1 (by simp)
 have f2 := hE1.cell 2 (by simp)
 have f3 := hE1.cell 3 (by simp)
 have f4 := hE1.cell 4 (by simp)
 have f5 := hE1.cell 5 (by simp)
 have f6 := hE1.cell 6 (by simp)
 have f7 := hE1.cell 7 (by simp)
 have f8 := hE1.cell 8 (by simp)
 have f9 := hE1.cell 9 (by simp)
 have f10 := hE1.cell 10 (by simp)
 have HE1 := Li hE1
 have hs1 : w.heap.size < w1.heap.size := hE1.lt
 clear hE1 hb1 hu1 TK HE0 HK0 HU0 KK
 cases y with
 | false =>
   have FIN : Hid ((FPost bf lf w (fun n => OkE (.mk 11 op tx v nm a b c d) ∧ (ctE (.mk 11 op tx v nm a b c d) : Int) ≤ n) (.returned (.bool false)) w1)) := Li ⟨false, l1, rfl, HK1.out, HU1.out, hl11, by omega, fun h => by simp at h⟩
   clear HK1 HU1 hok1 HE1
   go_wp2_with fail
   go_ret
   exact FIN.out
 | true =>
 obtain ⟨h01, hdp, h11⟩ := hok1 rfl
 have HCL := Li (treeClean_any 11 op v.kd v.ub tx v.tx v.nb ma ka sa pa v.ms.length mc v.kn kc a.length sc b.length pc w1)
 clear hok1
 go_wp2_with fail
 refine HCL.out.mono ?_
 rintro e w2 ⟨y, rfl, hcl, hb2⟩
 have HU2 := Li (HU1.out.trans (Up.of_below hb2))
 have HK2 := Li (HK1.out.below hb2 HK1.out.lt)
 have hE2 := HE1.out.below hb2 HE1.out.lt
 have HO2 := Li (HO.out.up HU2.out hbf hB)
 have hw2 : B ≤ w2.heap.size := Nat.le_trans hB HU2.out.size
 have d0 := hE2.cell 0 (by simp)
 have d1 := hE2.cell 1 (by simp)
 have d2 := hE2.cell 2 (by simp)
 have d3 := hE2.cell 3 (by simp)
 have d4 := hE2.cell 4 (by simp)
 have d5 := hE2.cell 5 (by simp)
 have d6 := hE2.cell 6 (by simp)
 have d7 := hE2.cell 7 (by simp)
 have d8 := hE2.cell 8 (by simp)
 have d9 := hE2.cell 9 (by simp)
 have d10 := hE2.cell 10 (by simp)
 have HE2 := Li hE2
 have hs2 : w.heap.size < w2.heap.size := hE2.lt
 have HCN := Li hcl
 clear hE2 hb2 HCL hcl HE1 HK1 HU1 f0 f1 f2 f3 f4 f5 f6 f7 f8 f9 f10
 cases y with
 | false =>
   have FIN : Hid ((FPost bf lf w (fun n => OkE (.mk 11 op tx v nm a b c d) ∧ (ctE (.mk 11 op tx v nm a b c d) : Int) ≤ n) (.returned (.bool false)) w2)) := Li ⟨false, l1, rfl, HK2.out, HU2.out, hl11, by omega, fun h => by simp at h⟩
   clear HK2 HU2 HE2
   go_wp2_with fail
   go_ret
   exact FIN.out
 | true =>
 have HCB : Hid (b = []) := Li (by rcases HCN.out rfl with h | h <;> first | omega | exact len0 h)
 by_cases hn : a.length ≠ 2
 · have FIN : Hid ((FPost bf lf w (fun n => OkE (.mk 11 op tx v nm a b c d) ∧ (ctE (.mk 11 op tx v nm a b c d) : Int) ≤ n) (.returned (.bool false)) w2)) := Li ⟨false, l1, rfl, HK2.out, HU2.out, hl11, by omega, fun h => by simp at h⟩
   have hn1 : ((a.length : Int) != 2) = true := by rw [bne_iff_ne]; omega
   clear HK2 HU2 HE2 hn
   go_wp2_with fail
   go_ret
   exact FIN.out
 have HN : Hid (a.length = 2) := Li (by omega)
 have hn1 : ((a.length : Int) != 2) = false := by rw [bne_eq_false_iff_eq]; omega
 clear hn
 have HC := Li (all_of (l := a) (fun x hx => (HIH.out x hx).1) sa sc (deep + 1) l1 w2 HXA.out HO2.out hw2 hbf HK2.out h01 (by omega) (by omega) (by omega))
 go_wp2_with fail
 refine HC.out.mono ?_
 rintro e w3 ⟨y, l3, rfl, hb3, hu3, hl31, hl32, hok3⟩
 have FIN : Hid ((FPost bf lf w (fun n => OkE (.mk 11 op tx v nm a b c d) ∧ (ctE (.mk 11 op tx v nm a b c d) : Int) ≤ n) (.returned (.bool y)) w3)) := Li ⟨y, l3, rfl, hb3, HU2.out.trans hu3, hl31, by omega, fun h => by
   obtain ⟨h03, hP3, hC3⟩ := hok3 h
   refine ⟨h03, ?_, ?_⟩
   · obtain ⟨x, y, e⟩ := len2 HN.out; rw [HCB.out, e]; rw [e] at hP3; exact .two _ _ _ _ _ _ _ _ _ (by omega) (hP3 x (by simp)) (hP3 y (by simp))
   · rw [ctE_mk, HCB.out]; simp; omega⟩
 clear HK2 HU2 hb3 hu3 hok3 HC HE2
 go_wp2_with fail
 go_ret
 exact FIN.out
set_option maxHeartbeats 6400000 in
theorem expr_k13 {R : Nat → Nat → Option Value} {B bf : Nat} (op : Int) (tx : ByteArray) (v : VV) (nm : List ByteArray) (a b c d : List Tr) (ma ka sa pa : Option Addr) (mc kc sc pc : Nat) (deep lf : Int) (w : World) (IH : ∀ s ∈ a, FEx R B bf s ∧ ∀ k ∈ s.a, FEx R B bf k) (IHP : ∀ p ∈ b, ∀ k ∈ p.a, FEx R B bf k)
   (hvr : VaR R v [.int .i64 v.kd, .bool v.nb, .slice ma v.ms.length mc, .int .u64 v.ub, .string v.tx, .slice ka v.kn kc]) (hxa : ExL R a (.slice sa a.length sc)) (hpb : PaL R b (.slice pa b.length pc)) (htx : tx.size ≤ maxLen) (ho : Old R B w) (hB : B ≤ w.heap.size) (hbf : B ≤ bf) (hb : Blk w bf 37 [.int .i64 lf]) (h0 : 0 ≤ lf) (h300 : lf ≤ 300) (hd : 0 ≤ deep) (hd2 : deep ≤ 25) :
   Calls Tryz.prog 26 #[.pointer (some ⟨bf, 0, none⟩), .agg #[.int .i64 13, .int .i64 op, .string tx, .int .i64 v.kd, .bool v.nb, .slice ma v.ms.length mc, .int .u64 v.ub, .string v.tx, .slice ka v.kn kc, .slice sa a.length sc, .slice pa b.length pc], .int .i64 deep] w (FPost bf lf w (fun n => OkE (.mk 13 op tx v nm a b c d) ∧ (ctE (.mk 13 op tx v nm a b c d) : Int) ≤ n)) := by
 obtain ⟨W0, hW0⟩ : ∃ W0, W0 = w.alloc (.cells #[.int .i64 13, .int .i64 op, .string tx, .int .i64 v.kd, .bool v.nb, .slice ma v.ms.length mc, .int .u64 v.ub, .string v.tx, .slice ka v.kn kc, .slice sa a.length sc, .slice pa b.length pc] 75) := ⟨_, rfl⟩
 have hu0 : Up (some bf) w W0 := by rw [hW0]; exact (Up.refl (some bf) w).alloc _
 have E0 : Blk W0 w.heap.size 75 [.int .i64 13, .int .i64 op, .string tx, .int .i64 v.kd, .bool v.nb, .slice ma v.ms.length mc, .int .u64 v.ub, .string v.tx, .slice ka v.kn kc, .slice sa a.length sc, .slice pa b.length pc] := by rw [hW0]; exact Blk.new w _ _
 have hbl := hb.lt
 have hK0 : Blk W0 bf 37 [.int .i64 lf] := by rw [hW0]; exact hb.alloc _
 have hW0s : W0.heap.size = w.heap.size + 1 := by rw [hW0]; simp
 have hO0 : Old R B W0 := ho.up hu0 hbf hB
 have hne : w.heap.size ≠ bf := by omega
 have TK := Li (takes_any bf lf deep W0 hK0 h0 h300 hd (by omega))
 have KK : Hid (∀ W, Calls Tryz.prog 29 #[.int .i64 13] W (fun e w' => e = .returned (.int .i64 1) ∧ W = w')) := Li (fun W => by
   have h := treeKids_any 13 W
   have e : tkK 13 = 1 := by decide
   rw [e] at h
   exact h)
 have HU0 := Li hu0; have HK0 := Li hK0; have HE0 := Li E0; have HO := Li ho
 have HIH := Li IH; have HIP := Li IHP; have HXA := Li hxa; have HPB := Li hpb; have HTX := Li htx; have HVR := Li hvr
 clear hu0 E0 hK0 hO0 hb ho IH IHP hxa hpb htx hvr
 have hm : a.length ≤ sc ∧ sc ≤ maxLen := by
   obtain ⟨_, _, e, h1, h2, _⟩ := HXA.out.form
   simp only [Value.slice.injEq, true_and] at e
   rw [e.2]; exact ⟨h1, h2⟩
 unfold maxLen at hm
 obtain ⟨hm1, hm2⟩ := hm
 subst hW0
 go_enter Tryz.func26, Tryz.ntmps26
 go_wp2_with (go_at_call 29; refine (KK.out _).mono ?_; rintro e w' ⟨rfl, rfl⟩)
 refine TK.out.mono ?_
 rintro e w1 ⟨y, l1, rfl, hb1, hu1, hl11, hl12, hok1⟩
 have HK1 := Li hb1
 have HU1 := Li (HU0.out.trans hu1)
 have hE1 := HE0.out.up hu1 (by simp only [ne_eq, Option.some.injEq]; exact hne)
 have f0 := hE1.cell 0 (by simp)
 have f1 := hE1.cell 1 (by simp)
 have f2 := hE1.cell 2 (by simp)
 have f3 := hE1.cell 3 (by simp)
 have f4 := hE1.cell 4 (by simp)
 have f5 := hE1.cell 5 (by simp)
 have f6 := hE1.cell 6 (by simp)
 have f7 := hE1.cell 7 (by simp)
 have f8 := hE1.cell 8 (by simp)
 have f9 := hE1.cell 9 (by simp)
 have f10 := hE1.cell 10 (by simp)
 have HE1 := Li hE1
 have hs1 : w.heap.size < w1.heap.size := hE1.lt
 clear hE1 hb1 hu1 TK HE0 HK0 HU0 KK
 cases y with
 | false =>
   have FIN : Hid ((FPost bf lf w (fun n => OkE (.mk 13 op tx v nm a b c d) ∧ (ctE (.mk 13 op tx v nm a b c d) : Int) ≤ n) (.returned (.bool false)) w1)) := Li ⟨false, l1, rfl, HK1.out, HU1.out, hl11, by omega, fun h => by simp at h⟩
   clear HK1 HU1 hok1 HE1
   go_wp2_with fail
   go_ret
   exact FIN.out
 | true =>
 obtain ⟨h01, hdp, h11⟩ := hok1 rfl
 have HCL := Li (treeClean_any 13 op v.kd v.ub tx v.tx v.nb ma ka sa pa v.ms.length mc v.kn kc a.length sc b.length pc w1)
 clear hok1
 go_wp2_with fail
 refine HCL.out.mono ?_
 rintro e w2 ⟨y, rfl, hcl, hb2⟩
 have HU2 := Li (HU1.out.trans (Up.of_below hb2))
 have HK2 := Li (HK1.out.below hb2 HK1.out.lt)
 have hE2 := HE1.out.below hb2 HE1.out.lt
 have HO2 := Li (HO.out.up HU2.out hbf hB)
 have hw2 : B ≤ w2.heap.size := Nat.le_trans hB HU2.out.size
 have d0 := hE2.cell 0 (by simp)
 have d1 := hE2.cell 1 (by simp)
 have d2 := hE2.cell 2 (by simp)
 have d3 := hE2.cell 3 (by simp)
 have d4 := hE2.cell 4 (by simp)
 have d5 := hE2.cell 5 (by simp)
 have d6 := hE2.cell 6 (by simp)
 have d7 := hE2.cell 7 (by simp)
 have d8 := hE2.cell 8 (by simp)
 have d9 := hE2.cell 9 (by simp)
 have d10 := hE2.cell 10 (by simp)
 have HE2 := Li hE2
 have hs2 : w.heap.size < w2.heap.size := hE2.lt
 have HCN := Li hcl
 clear hE2 hb2 HCL hcl HE1 HK1 HU1 f0 f1 f2 f3 f4 f5 f6 f7 f8 f9 f10
 cases y with
 | false =>
   have FIN : Hid ((FPost bf lf w (fun n => OkE (.mk 13 op tx v nm a b c d) ∧ (ctE (.mk 13 op tx v nm a b c d) : Int) ≤ n) (.returned (.bool false)) w2)) := Li ⟨false, l1, rfl, HK2.out, HU2.out, hl11, by omega, fun h => by simp at h⟩
   clear HK2 HU2 HE2
   go_wp2_with fail
   go_ret
   exact FIN.out
 | true =>
 have HCB : Hid (b = []) := Li (by rcases HCN.out rfl with h | h <;> first | omega | exact len0 h)
 by_cases hn : a.length ≠ 1
 · have FIN : Hid ((FPost bf lf w (fun n => OkE (.mk 13 op tx v nm a b c d) ∧ (ctE (.mk 13 op tx v nm a b c d) : Int) ≤ n) (.returned (.bool false)) w2)) := Li ⟨false, l1, rfl, HK2.out, HU2.out, hl11, by omega, fun h => by simp at h⟩
   have hn1 : ((a.length : Int) != 1) = true := by rw [bne_iff_ne]; omega
   clear HK2 HU2 HE2 hn
   go_wp2_with fail
   go_ret
   exact FIN.out
 have HN : Hid (a.length = 1) := Li (by omega)
 have hn1 : ((a.length : Int) != 1) = false := by rw [bne_eq_false_iff_eq]; omega
 clear hn
 have HC := Li (all_of (l := a) (fun x hx => (HIH.out x hx).1) sa sc (deep + 1) l1 w2 HXA.out HO2.out hw2 hbf HK2.out h01 (by omega) (by omega) (by omega))
 go_wp2_with (go_at_call 21; refine (isName_any _ _ HTX.out).mono ?_; rintro e w' ⟨y, rfl, rfl⟩; cases y)
 · have FIN : Hid ((FPost bf lf w (fun n => OkE (.mk 13 op tx v nm a b c d) ∧ (ctE (.mk 13 op tx v nm a b c d) : Int) ≤ n) (.returned (.bool false)) w2)) := Li ⟨false, l1, rfl, HK2.out, HU2.out, by omega, by omega, fun h => by simp at h⟩
   go_ret
   exact FIN.out
 refine HC.out.mono ?_
 rintro e w3 ⟨y, l3, rfl, hb3, hu3, hl31, hl32, hok3⟩
 have FIN : Hid ((FPost bf lf w (fun n => OkE (.mk 13 op tx v nm a b c d) ∧ (ctE (.mk 13 op tx v nm a b c d) : Int) ≤ n) (.returned (.bool y)) w3)) := Li ⟨y, l3, rfl, hb3, HU2.out.trans hu3, hl31, by omega, fun h => by
   obtain ⟨h03, hP3, hC3⟩ := hok3 h
   refine ⟨h03, ?_, ?_⟩
   · obtain ⟨x, e⟩ := len1 HN.out; rw [HCB.out, e]; rw [e] at hP3; exact .dot _ _ _ _ _ _ _ (hP3 x (by simp))
   · rw [ctE_mk, HCB.out]; simp; omega⟩
 clear HK2 HU2 hb3 hu3 hok3 HC HE2
 go_wp2_with fail
 go_ret
 exact FIN.out
set_option maxHeartbeats 6400000 in
theorem expr_k23 {R : Nat → Nat → Option Value} {B bf : Nat} (op : Int) (tx : ByteArray) (v : VV) (nm : List ByteArray) (a b c d : List Tr) (ma ka sa pa : Option Addr) (mc kc sc pc : Nat) (deep lf : Int) (w : World) (IH : ∀ s ∈ a, FEx R B bf s ∧ ∀ k ∈ s.a, FEx R B bf k) (IHP : ∀ p ∈ b, ∀ k ∈ p.a, FEx R B bf k)
   (hvr : VaR R v [.int .i64 v.kd, .bool v.nb, .slice ma v.ms.length mc, .int .u64 v.ub, .string v.tx, .slice ka v.kn kc]) (hxa : ExL R a (.slice sa a.length sc)) (hpb : PaL R b (.slice pa b.length pc)) (htx : tx.size ≤ maxLen) (ho : Old R B w) (hB : B ≤ w.heap.size) (hbf : B ≤ bf) (hb : Blk w bf 37 [.int .i64 lf]) (h0 : 0 ≤ lf) (h300 : lf ≤ 300) (hd : 0 ≤ deep) (hd2 : deep ≤ 25) :
   Calls Tryz.prog 26 #[.pointer (some ⟨bf, 0, none⟩), .agg #[.int .i64 23, .int .i64 op, .string tx, .int .i64 v.kd, .bool v.nb, .slice ma v.ms.length mc, .int .u64 v.ub, .string v.tx, .slice ka v.kn kc, .slice sa a.length sc, .slice pa b.length pc], .int .i64 deep] w (FPost bf lf w (fun n => OkE (.mk 23 op tx v nm a b c d) ∧ (ctE (.mk 23 op tx v nm a b c d) : Int) ≤ n)) := by
 obtain ⟨W0, hW0⟩ : ∃ W0, W0 = w.alloc (.cells #[.int .i64 23, .int .i64 op, .string tx, .int .i64 v.kd, .bool v.nb, .slice ma v.ms.length mc, .int .u64 v.ub, .string v.tx, .slice ka v.kn kc, .slice sa a.length sc, .slice pa b.length pc] 75) := ⟨_, rfl⟩
 have hu0 : Up (some bf) w W0 := by rw [hW0]; exact (Up.refl (some bf) w).alloc _
 have E0 : Blk W0 w.heap.size 75 [.int .i64 23, .int .i64 op, .string tx, .int .i64 v.kd, .bool v.nb, .slice ma v.ms.length mc, .int .u64 v.ub, .string v.tx, .slice ka v.kn kc, .slice sa a.length sc, .slice pa b.length pc] := by rw [hW0]; exact Blk.new w _ _
 have hbl := hb.lt
 have hK0 : Blk W0 bf 37 [.int .i64 lf] := by rw [hW0]; exact hb.alloc _
 have hW0s : W0.heap.size = w.heap.size + 1 := by rw [hW0]; simp
 have hO0 : Old R B W0 := ho.up hu0 hbf hB
 have hne : w.heap.size ≠ bf := by omega
 have TK := Li (takes_any bf lf deep W0 hK0 h0 h300 hd (by omega))
 have KK : Hid (∀ W, Calls Tryz.prog 29 #[.int .i64 23] W (fun e w' => e = .returned (.int .i64 1) ∧ W = w')) := Li (fun W => by
   have h := treeKids_any 23 W
   have e : tkK 23 = 1 := by decide
   rw [e] at h
   exact h)
 have HU0 := Li hu0; have HK0 := Li hK0; have HE0 := Li E0; have HO := Li ho
 have HIH := Li IH; have HIP := Li IHP; have HXA := Li hxa; have HPB := Li hpb; have HTX := Li htx; have HVR := Li hvr
 clear hu0 E0 hK0 hO0 hb ho IH IHP hxa hpb htx hvr
 have hm : a.length ≤ sc ∧ sc ≤ maxLen := by
   obtain ⟨_, _, e, h1, h2, _⟩ := HXA.out.form
   simp only [Value.slice.injEq, true_and] at e
   rw [e.2]; exact ⟨h1, h2⟩
 unfold maxLen at hm
 obtain ⟨hm1, hm2⟩ := hm
 subst hW0
 go_enter Tryz.func26, Tryz.ntmps26
 go_wp2_with (go_at_call 29; refine (KK.out _).mono ?_; rintro e w' ⟨rfl, rfl⟩)
 refine TK.out.mono ?_
 rintro e w1 ⟨y, l1, rfl, hb1, hu1, hl11, hl12, hok1⟩
 have HK1 := Li hb1
 have HU1 := Li (HU0.out.trans hu1)
 have hE1 := HE0.out.up hu1 (by simp only [ne_eq, Option.some.injEq]; exact hne)
 have f0 := hE1.cell 0 (by simp)
 have f1 := hE1.cell 1 (by simp)
 have f2 := hE1.cell 2 (by simp)
 have f3 := hE1.cell 3 (by simp)
 have f4 := hE1.cell 4 (by simp)
 have f5 := hE1.cell 5 (by simp)
 have f6 := hE1.cell 6 (by simp)
 have f7 := hE1.cell 7 (by simp)
 have f8 := hE1.cell 8 (by simp)
 have f9 := hE1.cell 9 (by simp)
 have f10 := hE1.cell 10 (by simp)
 have HE1 := Li hE1
 have hs1 : w.heap.size < w1.heap.size := hE1.lt
 clear hE1 hb1 hu1 TK HE0 HK0 HU0 KK
 cases y with
 | false =>
   have FIN : Hid ((FPost bf lf w (fun n => OkE (.mk 23 op tx v nm a b c d) ∧ (ctE (.mk 23 op tx v nm a b c d) : Int) ≤ n) (.returned (.bool false)) w1)) := Li ⟨false, l1, rfl, HK1.out, HU1.out, hl11, by omega, fun h => by simp at h⟩
   clear HK1 HU1 hok1 HE1
   go_wp2_with fail
   go_ret
   exact FIN.out
 | true =>
 obtain ⟨h01, hdp, h11⟩ := hok1 rfl
 have HCL := Li (treeClean_any 23 op v.kd v.ub tx v.tx v.nb ma ka sa pa v.ms.length mc v.kn kc a.length sc b.length pc w1)
 clear hok1
 go_wp2_with fail
 refine HCL.out.mono ?_
 rintro e w2 ⟨y, rfl, hcl, hb2⟩
 have HU2 := Li (HU1.out.trans (Up.of_below hb2))
 have HK2 := Li (HK1.out.below hb2 HK1.out.lt)
 have hE2 := HE1.out.below hb2 HE1.out.lt
 have HO2 := Li (HO.out.up HU2.out hbf hB)
 have hw2 : B ≤ w2.heap.size := Nat.le_trans hB HU2.out.size
 have d0 := hE2.cell 0 (by simp)
 have d1 := hE2.cell 1 (by simp)
 have d2 := hE2.cell 2 (by simp)
 have d3 := hE2.cell 3 (by simp)
 have d4 := hE2.cell 4 (by simp)
 have d5 := hE2.cell 5 (by simp)
 have d6 := hE2.cell 6 (by simp)
 have d7 := hE2.cell 7 (by simp)
 have d8 := hE2.cell 8 (by simp)
 have d9 := hE2.cell 9 (by simp)
 have d10 := hE2.cell 10 (by simp)
 have HE2 := Li hE2
 have hs2 : w.heap.size < w2.heap.size := hE2.lt
 have HCN := Li hcl
 clear hE2 hb2 HCL hcl HE1 HK1 HU1 f0 f1 f2 f3 f4 f5 f6 f7 f8 f9 f10
 cases y with
 | false =>
   have FIN : Hid ((FPost bf lf w (fun n => OkE (.mk 23 op tx v nm a b c d) ∧ (ctE (.mk 23 op tx v nm a b c d) : Int) ≤ n) (.returned (.bool false)) w2)) := Li ⟨false, l1, rfl, HK2.out, HU2.out, hl11, by omega, fun h => by simp at h⟩
   clear HK2 HU2 HE2
   go_wp2_with fail
   go_ret
   exact FIN.out
 | true =>
 have HCB : Hid (b = []) := Li (by rcases HCN.out rfl with h | h <;> first | omega | exact len0 h)
 by_cases hn : a.length ≠ 1
 · have FIN : Hid ((FPost bf lf w (fun n => OkE (.mk 23 op tx v nm a b c d) ∧ (ctE (.mk 23 op tx v nm a b c d) : Int) ≤ n) (.returned (.bool false)) w2)) := Li ⟨false, l1, rfl, HK2.out, HU2.out, hl11, by omega, fun h => by simp at h⟩
   have hn1 : ((a.length : Int) != 1) = true := by rw [bne_iff_ne]; omega
   clear HK2 HU2 HE2 hn
   go_wp2_with fail
   go_ret
   exact FIN.out
 have HN : Hid (a.length = 1) := Li (by omega)
 have hn1 : ((a.length : Int) != 1) = false := by rw [bne_eq_false_iff_eq]; omega
 clear hn
 have HC := Li (all_of (l := a) (fun x hx => (HIH.out x hx).1) sa sc (deep + 1) l1 w2 HXA.out HO2.out hw2 hbf HK2.out h01 (by omega) (by omega) (by omega))
 go_wp2_with fail
 refine HC.out.mono ?_
 rintro e w3 ⟨y, l3, rfl, hb3, hu3, hl31, hl32, hok3⟩
 have FIN : Hid ((FPost bf lf w (fun n => OkE (.mk 23 op tx v nm a b c d) ∧ (ctE (.mk 23 op tx v nm a b c d) : Int) ≤ n) (.returned (.bool y)) w3)) := Li ⟨y, l3, rfl, hb3, HU2.out.trans hu3, hl31, by omega, fun h => by
   obtain ⟨h03, hP3, hC3⟩ := hok3 h
   refine ⟨h03, ?_, ?_⟩
   · obtain ⟨x, e⟩ := len1 HN.out; rw [HCB.out, e]; rw [e] at hP3; exact .paren _ _ _ _ _ _ _ (hP3 x (by simp))
   · rw [ctE_mk, HCB.out]; simp; omega⟩
 clear HK2 HU2 hb3 hu3 hok3 HC HE2
 go_wp2_with fail
 go_ret
 exact FIN.out
end Go.Proofs.YtoojgjhfmmohbaaGreat
