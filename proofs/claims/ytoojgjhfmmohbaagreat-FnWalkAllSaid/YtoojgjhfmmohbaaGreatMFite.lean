/- treeFitter.stmt: it answers true only at a statement that a text could have; one theorem a kind (printed by genwkstmt.py). treeFitter.stmt at any statement; spec.Fits. spec.WalkPlain: true only where there is no load. -/
import Derived.Test.YtoojgjhfmmohbaaGreatWkFitC
namespace Go.Proofs.YtoojgjhfmmohbaaGreat
open Go.RowKit
set_option linter.unusedVariables false
set_option linter.unusedSimpArgs false
set_option maxRecDepth 100000
set_option maxHeartbeats 6400000 in
theorem stmt_k3 {R : Nat → Nat → Option Value} {B bf : Nat} (op : Int) (tx : ByteArray) (v : VV) (nm : List ByteArray) (a b c d : List Tr) (na sa pa ba ea : Option Addr) (nc sc pc bc ec : Nat) (deep lf : Int) (w : World) (IHC : ∀ s ∈ c, FSt R B bf s) (IHD : ∀ s ∈ d, FSt R B bf s)
   (hsn : SlR R (.slice na nm.length nc) (nm.map .string)) (hzn : ∀ s ∈ nm, s.size ≤ maxLen) (hxa : ExL R a (.slice sa a.length sc)) (hpb : PaL R b (.slice pa b.length pc)) (hsc : StL R c (.slice ba c.length bc)) (hsd : StL R d (.slice ea d.length ec)) (htx : tx.size ≤ maxLen) (ho : Old R B w) (hB : B ≤ w.heap.size) (hbf : B ≤ bf) (hb : Blk w bf 37 [.int .i64 lf]) (h0 : 0 ≤ lf) (h300 : lf ≤ 300) (hd : 0 ≤ deep) (hd2 : deep ≤ 24) :
   Calls Tryz.prog 15 #[.pointer (some ⟨bf, 0, none⟩), .agg #[.int .i64 3, .int .i64 op, .string tx, .slice na nm.length nc, .slice sa a.length sc, .slice pa b.length pc, .slice ba c.length bc, .slice ea d.length ec], .int .i64 deep] w (FPost bf lf w (fun n => OkS (.mk 3 op tx v nm a b c d) ∧ (ctS (.mk 3 op tx v nm a b c d) : Int) ≤ n + 1)) := by
 obtain ⟨W0, hW0⟩ : ∃ W0, W0 = w.alloc (.cells #[.int .i64 3, .int .i64 op, .string tx, .slice na nm.length nc, .slice sa a.length sc, .slice pa b.length pc, .slice ba c.length bc, .slice ea d.length ec] 42) := ⟨_, rfl⟩
 have hu0 : Up (some bf) w W0 := by rw [hW0]; exact (Up.refl (some bf) w).alloc _
 have E0 : Blk W0 w.heap.size 42 [.int .i64 3, .int .i64 op, .string tx, .slice na nm.length nc, .slice sa a.length sc, .slice pa b.length pc, .slice ba c.length bc, .slice ea d.length ec] := by rw [hW0]; exact Blk.new w _ _
 have hbl := hb.lt
 have hK0 : Blk W0 bf 37 [.int .i64 lf] := by rw [hW0]; exact hb.alloc _
 have hW0s : W0.heap.size = w.heap.size + 1 := by rw [hW0]; simp
 have hO0 : Old R B W0 := ho.up hu0 hbf hB
 have hne : w.heap.size ≠ bf := by omega
 have KK : Hid (∀ W, Calls Tryz.prog 19 #[.int .i64 3] W (fun e w' => e = .returned (.int .i64 0) ∧ W = w')) := Li (fun W => by
   have h := treeParts_any 3 W
   have e : tkP 3 = 0 := by decide
   rw [e] at h
   exact h)
 have hml : a.length ≤ 9223372036854775807 ∧ b.length ≤ 9223372036854775807 ∧ c.length ≤ 9223372036854775807 ∧ d.length ≤ 9223372036854775807 ∧ nm.length ≤ 9223372036854775807 := by
   obtain ⟨_, _, _, h1, h2, _⟩ := hxa.form
   obtain ⟨_, _, _, h3, h4, _⟩ := hpb.form
   obtain ⟨_, _, _, h5, h6, _⟩ := hsc.form
   obtain ⟨_, _, _, h7, h8, _⟩ := hsd.form
   obtain ⟨_, _, _, h9, h10, _⟩ := hsn
   simp only [List.length_map] at h9
   unfold maxLen at *
   omega
 obtain ⟨ml1, ml2, ml3, ml4, ml5⟩ := hml
 have HC := Li (all_of (l := a) (fun x _ => expr_any R B bf x) sa sc (deep + 1) lf W0 hxa hO0 (by omega) hbf hK0 h0 h300 (by omega) (by omega))
 have HU0 := Li hu0; have HK0 := Li hK0; have HE0 := Li E0; have HO := Li ho
 have HIC := Li IHC; have HID := Li IHD; have HPB := Li hpb; have HTX := Li htx; have HSC := Li hsc; have HSD := Li hsd; have HSN := Li hsn; have HZN := Li hzn
 clear hu0 E0 hK0 hO0 hb ho IHC IHD hxa hpb htx hsc hsd hsn hzn
 subst hW0
 by_cases hn : a.length ≠ 0
 · have FIN : Hid ((FPost bf lf w (fun n => OkS (.mk 3 op tx v nm a b c d) ∧ (ctS (.mk 3 op tx v nm a b c d) : Int) ≤ n + 1) (.returned (.bool false)) (w.alloc (.cells #[.int .i64 3, .int .i64 op, .string tx, .slice na nm.length nc, .slice sa a.length sc, .slice pa b.length pc, .slice ba c.length bc, .slice ea d.length ec] 42)))) := Li ⟨false, lf, rfl, HK0.out, HU0.out, by omega, by omega, fun h => by simp at h⟩
   have hn1 : ((a.length : Int) != 0) = true := by rw [bne_iff_ne]; omega
   clear HK0 HU0 HE0 HC hn
   go_enter Tryz.func15, Tryz.ntmps15
   go_wp2_with (go_at_call 19; refine (KK.out _).mono ?_; rintro e w' ⟨rfl, rfl⟩)
   go_ret
   exact FIN.out
 have HN : Hid (a.length = 0) := Li (by omega)
 have hn1 : ((a.length : Int) != 0) = false := by rw [bne_eq_false_iff_eq]; omega
 clear hn
 go_enter Tryz.func15, Tryz.ntmps15
 go_wp2_with (go_at_call 19; refine (KK.out _).mono ?_; rintro e w' ⟨rfl, rfl⟩)
 clear KK hn1
 refine HC.out.mono ?_
 rintro e w1 ⟨y, l1, rfl, hb1, hu1, hl11, hl12, hok1⟩
 have HK1 := Li hb1
 have HU1 := Li (HU0.out.trans hu1)
 have hE1 := HE0.out.up hu1 (by simp only [ne_eq, Option.some.injEq]; exact hne)
 have f0 := hE1.cell 0 (by simp)
 have f1 := hE1.cell 1 (by simp)
 have f2 := hE1.cell 2 (by simp)
 have f3 := hE1.cell 3 (by simp)
 have f4 := hE1.cell 4 (by simp)
 have f5 := hE1.cell 5 (by simp)
 have f6 := hE1.cell 6 (by simp)
 have f7 := hE1.cell 7 (by simp)
 have HE1 := Li hE1
 have hs1 : w.heap.size < w1.heap.size := hE1.lt
 have HO1 := Li (HO.out.up HU1.out hbf hB)
 have hw1 : B ≤ w1.heap.size := Nat.le_trans hB HU1.out.size
 have FINF : Hid ((FPost bf lf w (fun n => OkS (.mk 3 op tx v nm a b c d) ∧ (ctS (.mk 3 op tx v nm a b c d) : Int) ≤ n + 1) (.returned (.bool false)) w1)) := Li ⟨false, l1, rfl, HK1.out, HU1.out, hl11, by omega, fun h => by simp at h⟩
 clear hE1 hb1 hu1 HE0 HK0 HU0 HC
 cases y with
 | false =>
   clear HK1 HU1 hok1 HE1
   go_wp2_with fail
   go_ret
   exact FINF.out
 | true =>
 obtain ⟨h01, hP1, hC1⟩ := hok1 rfl
 have HP1 := Li hP1
 clear hok1 hP1
 by_cases hq : ¬ 0 < c.length
 · have hz : decide (0 < c.length) = false := decide_eq_false hq
   clear HK1 HU1 HE1
   go_wp2_with fail
   go_ret
   exact FINF.out
 have hqc : 0 < c.length := by omega
 have hzc : decide (0 < c.length) = true := decide_eq_true hqc
 clear hq
 by_cases hq : 0 < d.length
 · have hz : decide (0 < d.length) = true := decide_eq_true hq
   clear HK1 HU1 HE1
   go_wp2_with fail
   go_ret
   exact FINF.out
 obtain rfl : d = [] := List.length_eq_zero_iff.1 (by omega)
 simp only [List.length_nil] at f7
 clear hq
 by_cases hq : 0 < nm.length
 · have hz : decide (0 < nm.length) = true := decide_eq_true hq
   clear HK1 HU1 HE1
   go_wp2_with fail
   go_ret
   exact FINF.out
 obtain rfl : nm = [] := List.length_eq_zero_iff.1 (by omega)
 simp only [List.length_nil] at f3
 clear hq
 have HPAR := Li (params_of (l := b) (fun p _ k _ => expr_any R B bf k) pa pc (deep + 1) l1 w1 HPB.out HO1.out hw1 hbf HK1.out h01 (by omega) (by omega) (by omega))
 go_wp2_with (go_at_call 21; refine (isName_any _ _ HTX.out).mono ?_; rintro e w' ⟨y, rfl, rfl⟩; cases y)
 · go_ret
   exact FINF.out
 refine HPAR.out.mono ?_
 rintro e w1 ⟨y, l1, rfl, hb1, hu1, hl11, hl12, hok1⟩
 have HK1 := Li hb1
 have hE1 := HE1.out.up hu1 (by simp only [ne_eq, Option.some.injEq]; exact hne)
 have HU1 := Li (HU1.out.trans hu1)
 have f0 := hE1.cell 0 (by simp)
 have f1 := hE1.cell 1 (by simp)
 have f2 := hE1.cell 2 (by simp)
 have f3 := hE1.cell 3 (by simp)
 have f4 := hE1.cell 4 (by simp)
 have f5 := hE1.cell 5 (by simp)
 have f6 := hE1.cell 6 (by simp)
 have f7 := hE1.cell 7 (by simp)
 simp only [List.length_nil] at f3 f7
 have HE1 := Li hE1
 have hs1 : w.heap.size < w1.heap.size := hE1.lt
 have HO1 := Li (HO.out.up HU1.out hbf hB)
 have hw1 : B ≤ w1.heap.size := Nat.le_trans hB HU1.out.size
 have FINF : Hid ((FPost bf lf w (fun n => OkS (.mk 3 op tx v ([] : List ByteArray) a b c ([] : List Tr)) ∧ (ctS (.mk 3 op tx v ([] : List ByteArray) a b c ([] : List Tr)) : Int) ≤ n + 1) (.returned (.bool false)) w1)) := Li ⟨false, l1, rfl, HK1.out, HU1.out, hl11, by omega, fun h => by simp at h⟩
 clear hE1 hb1 hu1 HPAR
 cases y with
 | false =>
   clear HK1 HU1 hok1 HE1
   go_wp2_with fail
   go_ret
   exact FINF.out
 | true =>
 obtain ⟨h01, hPp, hC1⟩ := hok1 rfl
 have HPp := Li hPp
 clear hok1 hPp
 by_cases hop : ¬ op = 0
 · have hop1 : (op != 0) = true := by rw [bne_iff_ne]; exact hop
   clear HK1 HU1 HE1
   go_wp2_with fail
   go_ret
   exact FINF.out
 obtain rfl : op = 0 := by omega
 clear hop
 have HB := Li (stmts_of (l := c) (by exact HIC.out) ba bc (deep + 1) l1 w1 HSC.out HO1.out hw1 hbf HK1.out h01 (by omega) (by omega) (by omega))
 go_wp2_with fail
 with_reducible refine HB.out.mono ?_
 rintro e w2 ⟨y, l2, rfl, hb2, hu2, hl21, hl22, hok2⟩
 have hE2 := HE1.out.up hu2 (by simp only [ne_eq, Option.some.injEq]; exact hne)
 have g7 := hE2.cell 7 (by simp)
 simp only [List.length_nil] at g7
 have HU2 := Li (HU1.out.trans hu2)
 have HO2 := Li (HO.out.up HU2.out hbf hB)
 have hw2 : B ≤ w2.heap.size := Nat.le_trans hB HU2.out.size
 have hs2 : w.heap.size < w2.heap.size := hE2.lt
 clear hE2 hu2 HB
 cases y with
 | false =>
   have FIN : Hid ((FPost bf lf w (fun n => OkS (.mk 3 0 tx v ([] : List ByteArray) a b c ([] : List Tr)) ∧ (ctS (.mk 3 0 tx v ([] : List ByteArray) a b c ([] : List Tr)) : Int) ≤ n + 1) (.returned (.bool false)) w2)) := Li ⟨false, l2, rfl, hb2, HU2.out, hl21, by omega, fun h => by simp at h⟩
   clear hb2 hok2
   go_wp2_with fail
   go_ret
   exact FIN.out
 | true =>
 obtain ⟨h02, hP2, hC2⟩ := hok2 rfl
 have HP2 := Li hP2
 have HD := Li (stmts_of (l := ([] : List Tr)) (by intro s hs; simp at hs) ea ec (deep + 1) l2 w2 HSD.out HO2.out hw2 hbf hb2 h02 (by omega) (by omega) (by omega))
 simp only [List.length_nil] at HD
 clear hok2 hP2
 go_wp2_with fail
 with_reducible refine HD.out.mono ?_
 rintro e w3 ⟨y, l3, rfl, hb3, hu3, hl31, hl32, hok3⟩
 have FIN : Hid ((FPost bf lf w (fun n => OkS (.mk 3 0 tx v ([] : List ByteArray) a b c ([] : List Tr)) ∧ (ctS (.mk 3 0 tx v ([] : List ByteArray) a b c ([] : List Tr)) : Int) ≤ n + 1) (.returned (.bool y)) w3)) := Li ⟨y, l3, rfl, hb3, HU2.out.trans hu3, hl31, by omega, fun h => by
   obtain ⟨h03, hP3, hC3⟩ := hok3 h
   refine ⟨h03, ?_, ?_⟩
   · rw [len0 HN.out]; exact .fn _ _ _ _ _ _ HPp.out (by intro h; rw [h] at hqc; simp at hqc) HP2.out
   · rw [ctS_mk]; simp only [ctEs_nil, ctPs_nil, ctSs_nil] at *; omega⟩
 clear hb3 hu3 hok3 HD
 go_wp2_with fail
 go_ret
 exact FIN.out
set_option maxHeartbeats 6400000 in
theorem stmt_k7no {R : Nat → Nat → Option Value} {B bf : Nat} (op : Int) (tx : ByteArray) (v : VV) (nm : List ByteArray) (a b c d : List Tr) (na sa pa ba ea : Option Addr) (nc sc pc bc ec : Nat) (deep lf : Int) (w : World) (IHC : ∀ s ∈ c, FSt R B bf s) (IHD : ∀ s ∈ d, FSt R B bf s)
   (hsn : SlR R (.slice na nm.length nc) (nm.map .string)) (hzn : ∀ s ∈ nm, s.size ≤ maxLen) (hxa : ExL R a (.slice sa a.length sc)) (hpb : PaL R b (.slice pa b.length pc)) (hsc : StL R c (.slice ba c.length bc)) (hsd : StL R d (.slice ea d.length ec)) (htx : tx.size ≤ maxLen) (ho : Old R B w) (hB : B ≤ w.heap.size) (hbf : B ≤ bf) (hb : Blk w bf 37 [.int .i64 lf]) (h0 : 0 ≤ lf) (h300 : lf ≤ 300) (hd : 0 ≤ deep) (hd2 : deep ≤ 24) (hl : a.length = 0) :
   Calls Tryz.prog 15 #[.pointer (some ⟨bf, 0, none⟩), .agg #[.int .i64 7, .int .i64 op, .string tx, .slice na nm.length nc, .slice sa a.length sc, .slice pa b.length pc, .slice ba c.length bc, .slice ea d.length ec], .int .i64 deep] w (FPost bf lf w (fun n => OkS (.mk 7 op tx v nm a b c d) ∧ (ctS (.mk 7 op tx v nm a b c d) : Int) ≤ n + 1)) := by
 obtain ⟨W0, hW0⟩ : ∃ W0, W0 = w.alloc (.cells #[.int .i64 7, .int .i64 op, .string tx, .slice na nm.length nc, .slice sa a.length sc, .slice pa b.length pc, .slice ba c.length bc, .slice ea d.length ec] 42) := ⟨_, rfl⟩
 have hu0 : Up (some bf) w W0 := by rw [hW0]; exact (Up.refl (some bf) w).alloc _
 have E0 : Blk W0 w.heap.size 42 [.int .i64 7, .int .i64 op, .string tx, .slice na nm.length nc, .slice sa a.length sc, .slice pa b.length pc, .slice ba c.length bc, .slice ea d.length ec] := by rw [hW0]; exact Blk.new w _ _
 have hbl := hb.lt
 have hK0 : Blk W0 bf 37 [.int .i64 lf] := by rw [hW0]; exact hb.alloc _
 have hW0s : W0.heap.size = w.heap.size + 1 := by rw [hW0]; simp
 have hO0 : Old R B W0 := ho.up hu0 hbf hB
 have hne : w.heap.size ≠ bf := by omega
 have KK : Hid (∀ W, Calls Tryz.prog 19 #[.int .i64 7] W (fun e w' => e = .returned (.int .i64 1) ∧ W = w')) := Li (fun W => by
   have h := treeParts_any 7 W
   have e : tkP 7 = 1 := by decide
   rw [e] at h
   exact h)
 have hml : a.length ≤ 9223372036854775807 ∧ b.length ≤ 9223372036854775807 ∧ c.length ≤ 9223372036854775807 ∧ d.length ≤ 9223372036854775807 ∧ nm.length ≤ 9223372036854775807 := by
   obtain ⟨_, _, _, h1, h2, _⟩ := hxa.form
   obtain ⟨_, _, _, h3, h4, _⟩ := hpb.form
   obtain ⟨_, _, _, h5, h6, _⟩ := hsc.form
   obtain ⟨_, _, _, h7, h8, _⟩ := hsd.form
   obtain ⟨_, _, _, h9, h10, _⟩ := hsn
   simp only [List.length_map] at h9
   unfold maxLen at *
   omega
 obtain ⟨ml1, ml2, ml3, ml4, ml5⟩ := hml
 have HC := Li (all_of (l := a) (fun x _ => expr_any R B bf x) sa sc (deep + 1) lf W0 hxa hO0 (by omega) hbf hK0 h0 h300 (by omega) (by omega))
 have HU0 := Li hu0; have HK0 := Li hK0; have HE0 := Li E0; have HO := Li ho
 have HIC := Li IHC; have HID := Li IHD; have HPB := Li hpb; have HTX := Li htx; have HSC := Li hsc; have HSD := Li hsd; have HSN := Li hsn; have HZN := Li hzn
 clear hu0 E0 hK0 hO0 hb ho IHC IHD hxa hpb htx hsc hsd hsn hzn
 subst hW0
 have HN : Hid (a.length = 0) := Li hl
 have hn1 : ((a.length : Int) != 1) = true := by rw [bne_iff_ne]; omega
 have hn2 : ((a.length : Int) == 0) = true := by rw [beq_iff_eq]; omega
 clear hl
 go_enter Tryz.func15, Tryz.ntmps15
 go_wp2_with (go_at_call 19; refine (KK.out _).mono ?_; rintro e w' ⟨rfl, rfl⟩)
 clear KK hn1 hn2
 refine HC.out.mono ?_
 rintro e w1 ⟨y, l1, rfl, hb1, hu1, hl11, hl12, hok1⟩
 have HK1 := Li hb1
 have HU1 := Li (HU0.out.trans hu1)
 have hE1 := HE0.out.up hu1 (by simp only [ne_eq, Option.some.injEq]; exact hne)
 have f0 := hE1.cell 0 (by simp)
 have f1 := hE1.cell 1 (by simp)
 have f2 := hE1.cell 2 (by simp)
 have f3 := hE1.cell 3 (by simp)
 have f4 := hE1.cell 4 (by simp)
 have f5 := hE1.cell 5 (by simp)
 have f6 := hE1.cell 6 (by simp)
 have f7 := hE1.cell 7 (by simp)
 have HE1 := Li hE1
 have hs1 : w.heap.size < w1.heap.size := hE1.lt
 have HO1 := Li (HO.out.up HU1.out hbf hB)
 have hw1 : B ≤ w1.heap.size := Nat.le_trans hB HU1.out.size
 have FINF : Hid ((FPost bf lf w (fun n => OkS (.mk 7 op tx v nm a b c d) ∧ (ctS (.mk 7 op tx v nm a b c d) : Int) ≤ n + 1) (.returned (.bool false)) w1)) := Li ⟨false, l1, rfl, HK1.out, HU1.out, hl11, by omega, fun h => by simp at h⟩
 clear hE1 hb1 hu1 HE0 HK0 HU0 HC
 cases y with
 | false =>
   clear HK1 HU1 hok1 HE1
   go_wp2_with fail
   go_ret
   exact FINF.out
 | true =>
 obtain ⟨h01, hP1, hC1⟩ := hok1 rfl
 have HP1 := Li hP1
 clear hok1 hP1
 by_cases hq : 0 < c.length
 · have hz : decide (0 < c.length) = true := decide_eq_true hq
   clear HK1 HU1 HE1
   go_wp2_with fail
   go_ret
   exact FINF.out
 obtain rfl : c = [] := List.length_eq_zero_iff.1 (by omega)
 simp only [List.length_nil] at f6
 clear hq
 by_cases hq : 0 < d.length
 · have hz : decide (0 < d.length) = true := decide_eq_true hq
   clear HK1 HU1 HE1
   go_wp2_with fail
   go_ret
   exact FINF.out
 obtain rfl : d = [] := List.length_eq_zero_iff.1 (by omega)
 simp only [List.length_nil] at f7
 clear hq
 by_cases hq : 0 < b.length
 · have hz : decide (0 < b.length) = true := decide_eq_true hq
   clear HK1 HU1 HE1
   go_wp2_with fail
   go_ret
   exact FINF.out
 obtain rfl : b = [] := List.length_eq_zero_iff.1 (by omega)
 simp only [List.length_nil] at f5
 clear hq
 by_cases hq : 0 < nm.length
 · have hz : decide (0 < nm.length) = true := decide_eq_true hq
   clear HK1 HU1 HE1
   go_wp2_with fail
   go_ret
   exact FINF.out
 obtain rfl : nm = [] := List.length_eq_zero_iff.1 (by omega)
 simp only [List.length_nil] at f3
 clear hq
 by_cases hop : ¬ op = 0
 · have hop1 : (op != 0) = true := by rw [bne_iff_ne]; exact hop
   clear HK1 HU1 HE1
   go_wp2_with fail
   go_ret
   exact FINF.out
 obtain rfl : op = 0 := by omega
 clear hop
 by_cases htx : tx.toList.isEmpty = false
 · clear HK1 HU1 HE1
   go_wp2_with fail
   go_ret
   exact FINF.out
 have htx1 : tx.toList.isEmpty = true := by simpa using htx
 clear htx
 have HB := Li (stmts_of (l := ([] : List Tr)) (by intro s hs; simp at hs) ba bc (deep + 1) l1 w1 HSC.out HO1.out hw1 hbf HK1.out h01 (by omega) (by omega) (by omega))
 simp only [List.length_nil] at HB
 go_wp2_with fail
 with_reducible refine HB.out.mono ?_
 rintro e w2 ⟨y, l2, rfl, hb2, hu2, hl21, hl22, hok2⟩
 have hE2 := HE1.out.up hu2 (by simp only [ne_eq, Option.some.injEq]; exact hne)
 have g7 := hE2.cell 7 (by simp)
 simp only [List.length_nil] at g7
 have HU2 := Li (HU1.out.trans hu2)
 have HO2 := Li (HO.out.up HU2.out hbf hB)
 have hw2 : B ≤ w2.heap.size := Nat.le_trans hB HU2.out.size
 have hs2 : w.heap.size < w2.heap.size := hE2.lt
 clear hE2 hu2 HB
 cases y with
 | false =>
   have FIN : Hid ((FPost bf lf w (fun n => OkS (.mk 7 0 tx v ([] : List ByteArray) a ([] : List Tr) ([] : List Tr) ([] : List Tr)) ∧ (ctS (.mk 7 0 tx v ([] : List ByteArray) a ([] : List Tr) ([] : List Tr) ([] : List Tr)) : Int) ≤ n + 1) (.returned (.bool false)) w2)) := Li ⟨false, l2, rfl, hb2, HU2.out, hl21, by omega, fun h => by simp at h⟩
   clear hb2 hok2
   go_wp2_with fail
   go_ret
   exact FIN.out
 | true =>
 obtain ⟨h02, hP2, hC2⟩ := hok2 rfl
 have HP2 := Li hP2
 have HD := Li (stmts_of (l := ([] : List Tr)) (by intro s hs; simp at hs) ea ec (deep + 1) l2 w2 HSD.out HO2.out hw2 hbf hb2 h02 (by omega) (by omega) (by omega))
 simp only [List.length_nil] at HD
 clear hok2 hP2
 go_wp2_with fail
 with_reducible refine HD.out.mono ?_
 rintro e w3 ⟨y, l3, rfl, hb3, hu3, hl31, hl32, hok3⟩
 have FIN : Hid ((FPost bf lf w (fun n => OkS (.mk 7 0 tx v ([] : List ByteArray) a ([] : List Tr) ([] : List Tr) ([] : List Tr)) ∧ (ctS (.mk 7 0 tx v ([] : List ByteArray) a ([] : List Tr) ([] : List Tr) ([] : List Tr)) : Int) ≤ n + 1) (.returned (.bool y)) w3)) := Li ⟨y, l3, rfl, hb3, HU2.out.trans hu3, hl31, by omega, fun h => by
   obtain ⟨h03, hP3, hC3⟩ := hok3 h
   refine ⟨h03, ?_, ?_⟩
   · rw [len0 HN.out]; exact .ret0 _ _ _ _
   · rw [ctS_mk]; simp only [ctEs_nil, ctPs_nil, ctSs_nil] at *; omega⟩
 clear hb3 hu3 hok3 HD
 go_wp2_with fail
 go_ret
 exact FIN.out
set_option maxHeartbeats 6400000 in
theorem stmt_k7one {R : Nat → Nat → Option Value} {B bf : Nat} (op : Int) (tx : ByteArray) (v : VV) (nm : List ByteArray) (a b c d : List Tr) (na sa pa ba ea : Option Addr) (nc sc pc bc ec : Nat) (deep lf : Int) (w : World) (IHC : ∀ s ∈ c, FSt R B bf s) (IHD : ∀ s ∈ d, FSt R B bf s)
   (hsn : SlR R (.slice na nm.length nc) (nm.map .string)) (hzn : ∀ s ∈ nm, s.size ≤ maxLen) (hxa : ExL R a (.slice sa a.length sc)) (hpb : PaL R b (.slice pa b.length pc)) (hsc : StL R c (.slice ba c.length bc)) (hsd : StL R d (.slice ea d.length ec)) (htx : tx.size ≤ maxLen) (ho : Old R B w) (hB : B ≤ w.heap.size) (hbf : B ≤ bf) (hb : Blk w bf 37 [.int .i64 lf]) (h0 : 0 ≤ lf) (h300 : lf ≤ 300) (hd : 0 ≤ deep) (hd2 : deep ≤ 24) (hl : a.length = 1) :
   Calls Tryz.prog 15 #[.pointer (some ⟨bf, 0, none⟩), .agg #[.int .i64 7, .int .i64 op, .string tx, .slice na nm.length nc, .slice sa a.length sc, .slice pa b.length pc, .slice ba c.length bc, .slice ea d.length ec], .int .i64 deep] w (FPost bf lf w (fun n => OkS (.mk 7 op tx v nm a b c d) ∧ (ctS (.mk 7 op tx v nm a b c d) : Int) ≤ n + 1)) := by
 obtain ⟨W0, hW0⟩ : ∃ W0, W0 = w.alloc (.cells #[.int .i64 7, .int .i64 op, .string tx, .slice na nm.length nc, .slice sa a.length sc, .slice pa b.length pc, .slice ba c.length bc, .slice ea d.length ec] 42) := ⟨_, rfl⟩
 have hu0 : Up (some bf) w W0 := by rw [hW0]; exact (Up.refl (some bf) w).alloc _
 have E0 : Blk W0 w.heap.size 42 [.int .i64 7, .int .i64 op, .string tx, .slice na nm.length nc, .slice sa a.length sc, .slice pa b.length pc, .slice ba c.length bc, .slice ea d.length ec] := by rw [hW0]; exact Blk.new w _ _
 have hbl := hb.lt
 have hK0 : Blk W0 bf 37 [.int .i64 lf] := by rw [hW0]; exact hb.alloc _
 have hW0s : W0.heap.size = w.heap.size + 1 := by rw [hW0]; simp
 have hO0 : Old R B W0 := ho.up hu0 hbf hB
 have hne : w.heap.size ≠ bf := by omega
 have KK : Hid (∀ W, Calls Tryz.prog 19 #[.int .i64 7] W (fun e w' => e = .returned (.int .i64 1) ∧ W = w')) := Li (fun W => by
   have h := treeParts_any 7 W
   have e : tkP 7 = 1 := by decide
   rw [e] at h
   exact h)
 have hml : a.length ≤ 9223372036854775807 ∧ b.length ≤ 9223372036854775807 ∧ c.length ≤ 9223372036854775807 ∧ d.length ≤ 9223372036854775807 ∧ nm.length ≤ 9223372036854775807 := by
   obtain ⟨_, _, _, h1, h2, _⟩ := hxa.form
   obtain ⟨_, _, _, h3, h4, _⟩ := hpb.form
   obtain ⟨_, _, _, h5, h6, _⟩ := hsc.form
   obtain ⟨_, _, _, h7, h8, _⟩ := hsd.form
   obtain ⟨_, _, _, h9, h10, _⟩ := hsn
   simp only [List.length_map] at h9
   unfold maxLen at *
   omega
 obtain ⟨ml1, ml2, ml3, ml4, ml5⟩ := hml
 have HC := Li (all_of (l := a) (fun x _ => expr_any R B bf x) sa sc (deep + 1) lf W0 hxa hO0 (by omega) hbf hK0 h0 h300 (by omega) (by omega))
 have HU0 := Li hu0; have HK0 := Li hK0; have HE0 := Li E0; have HO := Li ho
 have HIC := Li IHC; have HID := Li IHD; have HPB := Li hpb; have HTX := Li htx; have HSC := Li hsc; have HSD := Li hsd; have HSN := Li hsn; have HZN := Li hzn
 clear hu0 E0 hK0 hO0 hb ho IHC IHD hxa hpb htx hsc hsd hsn hzn
 subst hW0
 have HN : Hid (a.length = 1) := Li hl
 have hn1 : ((a.length : Int) != 1) = false := by rw [bne_eq_false_iff_eq]; omega
 clear hl
 go_enter Tryz.func15, Tryz.ntmps15
 go_wp2_with (go_at_call 19; refine (KK.out _).mono ?_; rintro e w' ⟨rfl, rfl⟩)
 clear KK hn1
 refine HC.out.mono ?_
 rintro e w1 ⟨y, l1, rfl, hb1, hu1, hl11, hl12, hok1⟩
 have HK1 := Li hb1
 have HU1 := Li (HU0.out.trans hu1)
 have hE1 := HE0.out.up hu1 (by simp only [ne_eq, Option.some.injEq]; exact hne)
 have f0 := hE1.cell 0 (by simp)
 have f1 := hE1.cell 1 (by simp)
 have f2 := hE1.cell 2 (by simp)
 have f3 := hE1.cell 3 (by simp)
 have f4 := hE1.cell 4 (by simp)
 have f5 := hE1.cell 5 (by simp)
 have f6 := hE1.cell 6 (by simp)
 have f7 := hE1.cell 7 (by simp)
 have HE1 := Li hE1
 have hs1 : w.heap.size < w1.heap.size := hE1.lt
 have HO1 := Li (HO.out.up HU1.out hbf hB)
 have hw1 : B ≤ w1.heap.size := Nat.le_trans hB HU1.out.size
 have FINF : Hid ((FPost bf lf w (fun n => OkS (.mk 7 op tx v nm a b c d) ∧ (ctS (.mk 7 op tx v nm a b c d) : Int) ≤ n + 1) (.returned (.bool false)) w1)) := Li ⟨false, l1, rfl, HK1.out, HU1.out, hl11, by omega, fun h => by simp at h⟩
 clear hE1 hb1 hu1 HE0 HK0 HU0 HC
 cases y with
 | false =>
   clear HK1 HU1 hok1 HE1
   go_wp2_with fail
   go_ret
   exact FINF.out
 | true =>
 obtain ⟨h01, hP1, hC1⟩ := hok1 rfl
 have HP1 := Li hP1
 clear hok1 hP1
 by_cases hq : 0 < c.length
 · have hz : decide (0 < c.length) = true := decide_eq_true hq
   clear HK1 HU1 HE1
   go_wp2_with fail
   go_ret
   exact FINF.out
 obtain rfl : c = [] := List.length_eq_zero_iff.1 (by omega)
 simp only [List.length_nil] at f6
 clear hq
 by_cases hq : 0 < d.length
 · have hz : decide (0 < d.length) = true := decide_eq_true hq
   clear HK1 HU1 HE1
   go_wp2_with fail
   go_ret
   exact FINF.out
 obtain rfl : d = [] := List.length_eq_zero_iff.1 (by omega)
 simp only [List.length_nil] at f7
 clear hq
 by_cases hq : 0 < b.length
 · have hz : decide (0 < b.length) = true := decide_eq_true hq
   clear HK1 HU1 HE1
   go_wp2_with fail
   go_ret
   exact FINF.out
 obtain rfl : b = [] := List.length_eq_zero_iff.1 (by omega)
 simp only [List.length_nil] at f5
 clear hq
 by_cases hq : 0 < nm.length
 · have hz : decide (0 < nm.length) = true := decide_eq_true hq
   clear HK1 HU1 HE1
   go_wp2_with fail
   go_ret
   exact FINF.out
 obtain rfl : nm = [] := List.length_eq_zero_iff.1 (by omega)
 simp only [List.length_nil] at f3
 clear hq
 by_cases hop : ¬ op = 0
 · have hop1 : (op != 0) = true := by rw [bne_iff_ne]; exact hop
   clear HK1 HU1 HE1
   go_wp2_with fail
   go_ret
   exact FINF.out
 obtain rfl : op = 0 := by omega
 clear hop
 by_cases htx : tx.toList.isEmpty = false
 · clear HK1 HU1 HE1
   go_wp2_with fail
   go_ret
   exact FINF.out
 have htx1 : tx.toList.isEmpty = true := by simpa using htx
 clear htx
 have HB := Li (stmts_of (l := ([] : List Tr)) (by intro s hs; simp at hs) ba bc (deep + 1) l1 w1 HSC.out HO1.out hw1 hbf HK1.out h01 (by omega) (by omega) (by omega))
 simp only [List.length_nil] at HB
 go_wp2_with fail
 with_reducible refine HB.out.mono ?_
 rintro e w2 ⟨y, l2, rfl, hb2, hu2, hl21, hl22, hok2⟩
 have hE2 := HE1.out.up hu2 (by simp only [ne_eq, Option.some.injEq]; exact hne)
 have g7 := hE2.cell 7 (by simp)
 simp only [List.length_nil] at g7
 have HU2 := Li (HU1.out.trans hu2)
 have HO2 := Li (HO.out.up HU2.out hbf hB)
 have hw2 : B ≤ w2.heap.size := Nat.le_trans hB HU2.out.size
 have hs2 : w.heap.size < w2.heap.size := hE2.lt
 clear hE2 hu2 HB
 cases y with
 | false =>
   have FIN : Hid ((FPost bf lf w (fun n => OkS (.mk 7 0 tx v ([] : List ByteArray) a ([] : List Tr) ([] : List Tr) ([] : List Tr)) ∧ (ctS (.mk 7 0 tx v ([] : List ByteArray) a ([] : List Tr) ([] : List Tr) ([] : List Tr)) : Int) ≤ n + 1) (.returned (.bool false)) w2)) := Li ⟨false, l2, rfl, hb2, HU2.out, hl21, by omega, fun h => by simp at h⟩
   clear hb2 hok2
   go_wp2_with fail
   go_ret
   exact FIN.out
 | true =>
 obtain ⟨h02, hP2, hC2⟩ := hok2 rfl
 have HP2 := Li hP2
 have HD := Li (stmts_of (l := ([] : List Tr)) (by intro s hs; simp at hs) ea ec (deep + 1) l2 w2 HSD.out HO2.out hw2 hbf hb2 h02 (by omega) (by omega) (by omega))
 simp only [List.length_nil] at HD
 clear hok2 hP2
 go_wp2_with fail
 with_reducible refine HD.out.mono ?_
 rintro e w3 ⟨y, l3, rfl, hb3, hu3, hl31, hl32, hok3⟩
 have FIN : Hid ((FPost bf lf w (fun n => OkS (.mk 7 0 tx v ([] : List ByteArray) a ([] : List Tr) ([] : List Tr) ([] : List Tr)) ∧ (ctS (.mk 7 0 tx v ([] : List ByteArray) a ([] : List Tr) ([] : List Tr) ([] : List Tr)) : Int) ≤ n + 1) (.returned (.bool y)) w3)) := Li ⟨y, l3, rfl, hb3, HU2.out.trans hu3, hl31, by omega, fun h => by
   obtain ⟨h03, hP3, hC3⟩ := hok3 h
   refine ⟨h03, ?_, ?_⟩
   · obtain ⟨x, e⟩ := len1 HN.out; rw [e]; have hx := HP1.out x (by rw [e]; simp); exact .ret1 _ _ _ _ _ hx
   · rw [ctS_mk]; simp only [ctEs_nil, ctPs_nil, ctSs_nil] at *; omega⟩
 clear hb3 hu3 hok3 HD
 go_wp2_with fail
 go_ret
 exact FIN.out
set_option maxHeartbeats 6400000 in
theorem stmt_k7two {R : Nat → Nat → Option Value} {B bf : Nat} (op : Int) (tx : ByteArray) (v : VV) (nm : List ByteArray) (a b c d : List Tr) (na sa pa ba ea : Option Addr) (nc sc pc bc ec : Nat) (deep lf : Int) (w : World) (IHC : ∀ s ∈ c, FSt R B bf s) (IHD : ∀ s ∈ d, FSt R B bf s)
   (hsn : SlR R (.slice na nm.length nc) (nm.map .string)) (hzn : ∀ s ∈ nm, s.size ≤ maxLen) (hxa : ExL R a (.slice sa a.length sc)) (hpb : PaL R b (.slice pa b.length pc)) (hsc : StL R c (.slice ba c.length bc)) (hsd : StL R d (.slice ea d.length ec)) (htx : tx.size ≤ maxLen) (ho : Old R B w) (hB : B ≤ w.heap.size) (hbf : B ≤ bf) (hb : Blk w bf 37 [.int .i64 lf]) (h0 : 0 ≤ lf) (h300 : lf ≤ 300) (hd : 0 ≤ deep) (hd2 : deep ≤ 24) (hl : a.length ≠ 1) (hl2 : a.length ≠ 0) :
   Calls Tryz.prog 15 #[.pointer (some ⟨bf, 0, none⟩), .agg #[.int .i64 7, .int .i64 op, .string tx, .slice na nm.length nc, .slice sa a.length sc, .slice pa b.length pc, .slice ba c.length bc, .slice ea d.length ec], .int .i64 deep] w (FPost bf lf w (fun n => OkS (.mk 7 op tx v nm a b c d) ∧ (ctS (.mk 7 op tx v nm a b c d) : Int) ≤ n + 1)) := by
 obtain ⟨W0, hW0⟩ : ∃ W0, W0 = w.alloc (.cells #[.int .i64 7, .int .i64 op, .string tx, .slice na nm.length nc, .slice sa a.length sc, .slice pa b.length pc, .slice ba c.length bc, .slice ea d.length ec] 42) := ⟨_, rfl⟩
 have hu0 : Up (some bf) w W0 := by rw [hW0]; exact (Up.refl (some bf) w).alloc _
 have E0 : Blk W0 w.heap.size 42 [.int .i64 7, .int .i64 op, .string tx, .slice na nm.length nc, .slice sa a.length sc, .slice pa b.length pc, .slice ba c.length bc, .slice ea d.length ec] := by rw [hW0]; exact Blk.new w _ _
 have hbl := hb.lt
 have hK0 : Blk W0 bf 37 [.int .i64 lf] := by rw [hW0]; exact hb.alloc _
 have hW0s : W0.heap.size = w.heap.size + 1 := by rw [hW0]; simp
 have hO0 : Old R B W0 := ho.up hu0 hbf hB
 have hne : w.heap.size ≠ bf := by omega
 have KK : Hid (∀ W, Calls Tryz.prog 19 #[.int .i64 7] W (fun e w' => e = .returned (.int .i64 1) ∧ W = w')) := Li (fun W => by
   have h := treeParts_any 7 W
   have e : tkP 7 = 1 := by decide
   rw [e] at h
   exact h)
 have hml : a.length ≤ 9223372036854775807 ∧ b.length ≤ 9223372036854775807 ∧ c.length ≤ 9223372036854775807 ∧ d.length ≤ 9223372036854775807 ∧ nm.length ≤ 9223372036854775807 := by
   obtain ⟨_, _, _, h1, h2, _⟩ := hxa.form
   obtain ⟨_, _, _, h3, h4, _⟩ := hpb.form
   obtain ⟨_, _, _, h5, h6, _⟩ := hsc.form
   obtain ⟨_, _, _, h7, h8, _⟩ := hsd.form
   obtain ⟨_, _, _, h9, h10, _⟩ := hsn
   simp only [List.length_map] at h9
   unfold maxLen at *
   omega
 obtain ⟨ml1, ml2, ml3, ml4, ml5⟩ := hml
 have HC := Li (all_of (l := a) (fun x _ => expr_any R B bf x) sa sc (deep + 1) lf W0 hxa hO0 (by omega) hbf hK0 h0 h300 (by omega) (by omega))
 have HU0 := Li hu0; have HK0 := Li hK0; have HE0 := Li E0; have HO := Li ho
 have HIC := Li IHC; have HID := Li IHD; have HPB := Li hpb; have HTX := Li htx; have HSC := Li hsc; have HSD := Li hsd; have HSN := Li hsn; have HZN := Li hzn
 clear hu0 E0 hK0 hO0 hb ho IHC IHD hxa hpb htx hsc hsd hsn hzn
 subst hW0
 have hn1 : ((a.length : Int) != 1) = true := by rw [bne_iff_ne]; omega
 have hn2 : ((a.length : Int) == 0) = false := by rw [beq_eq_false_iff_ne]; omega
 clear hl hl2
 have FIN : Hid ((FPost bf lf w (fun n => OkS (.mk 7 op tx v nm a b c d) ∧ (ctS (.mk 7 op tx v nm a b c d) : Int) ≤ n + 1) (.returned (.bool false)) (w.alloc (.cells #[.int .i64 7, .int .i64 op, .string tx, .slice na nm.length nc, .slice sa a.length sc, .slice pa b.length pc, .slice ba c.length bc, .slice ea d.length ec] 42)))) := Li ⟨false, lf, rfl, HK0.out, HU0.out, by omega, by omega, fun h => by simp at h⟩
 clear HK0 HU0 HE0 HC
 go_enter Tryz.func15, Tryz.ntmps15
 go_wp2_with (go_at_call 19; refine (KK.out _).mono ?_; rintro e w' ⟨rfl, rfl⟩)
 go_ret
 exact FIN.out
set_option maxHeartbeats 6400000 in
theorem stmt_other {R : Nat → Nat → Option Value} {B bf : Nat} (kd : Int) (op : Int) (tx : ByteArray) (v : VV) (nm : List ByteArray) (a b c d : List Tr) (na sa pa ba ea : Option Addr) (nc sc pc bc ec : Nat) (deep lf : Int) (w : World) (IHC : ∀ s ∈ c, FSt R B bf s) (IHD : ∀ s ∈ d, FSt R B bf s)
   (hsn : SlR R (.slice na nm.length nc) (nm.map .string)) (hzn : ∀ s ∈ nm, s.size ≤ maxLen) (hxa : ExL R a (.slice sa a.length sc)) (hpb : PaL R b (.slice pa b.length pc)) (hsc : StL R c (.slice ba c.length bc)) (hsd : StL R d (.slice ea d.length ec)) (htx : tx.size ≤ maxLen) (ho : Old R B w) (hB : B ≤ w.heap.size) (hbf : B ≤ bf) (hb : Blk w bf 37 [.int .i64 lf]) (h0 : 0 ≤ lf) (h300 : lf ≤ 300) (hd : 0 ≤ deep) (hd2 : deep ≤ 24) (z0 : ¬ kd = 0) (z1 : ¬ kd = 1) (z2 : ¬ kd = 2) (z3 : ¬ kd = 3) (z4 : ¬ kd = 4) (z5 : ¬ kd = 5) (z6 : ¬ kd = 6) (z7 : ¬ kd = 7) (z8 : ¬ kd = 8) (z9 : ¬ kd = 9) (z10 : ¬ kd = 10) (z11 : ¬ kd = 11) :
   Calls Tryz.prog 15 #[.pointer (some ⟨bf, 0, none⟩), .agg #[.int .i64 kd, .int .i64 op, .string tx, .slice na nm.length nc, .slice sa a.length sc, .slice pa b.length pc, .slice ba c.length bc, .slice ea d.length ec], .int .i64 deep] w (FPost bf lf w (fun n => OkS (.mk kd op tx v nm a b c d) ∧ (ctS (.mk kd op tx v nm a b c d) : Int) ≤ n + 1)) := by
 obtain ⟨W0, hW0⟩ : ∃ W0, W0 = w.alloc (.cells #[.int .i64 kd, .int .i64 op, .string tx, .slice na nm.length nc, .slice sa a.length sc, .slice pa b.length pc, .slice ba c.length bc, .slice ea d.length ec] 42) := ⟨_, rfl⟩
 have hu0 : Up (some bf) w W0 := by rw [hW0]; exact (Up.refl (some bf) w).alloc _
 have E0 : Blk W0 w.heap.size 42 [.int .i64 kd, .int .i64 op, .string tx, .slice na nm.length nc, .slice sa a.length sc, .slice pa b.length pc, .slice ba c.length bc, .slice ea d.length ec] := by rw [hW0]; exact Blk.new w _ _
 have hbl := hb.lt
 have hK0 : Blk W0 bf 37 [.int .i64 lf] := by rw [hW0]; exact hb.alloc _
 have hW0s : W0.heap.size = w.heap.size + 1 := by rw [hW0]; simp
 have hO0 : Old R B W0 := ho.up hu0 hbf hB
 have hne : w.heap.size ≠ bf := by omega
 have KK : Hid (∀ W, Calls Tryz.prog 19 #[.int .i64 kd] W (fun e w' => e = .returned (.int .i64 (-1)) ∧ W = w')) := Li (fun W => by
   have h := treeParts_any kd W
   have e : tkP kd = (-1) := by unfold tkP; repeat rw [if_neg (by omega)]
   rw [e] at h
   exact h)
 have hml : a.length ≤ 9223372036854775807 ∧ b.length ≤ 9223372036854775807 ∧ c.length ≤ 9223372036854775807 ∧ d.length ≤ 9223372036854775807 ∧ nm.length ≤ 9223372036854775807 := by
   obtain ⟨_, _, _, h1, h2, _⟩ := hxa.form
   obtain ⟨_, _, _, h3, h4, _⟩ := hpb.form
   obtain ⟨_, _, _, h5, h6, _⟩ := hsc.form
   obtain ⟨_, _, _, h7, h8, _⟩ := hsd.form
   obtain ⟨_, _, _, h9, h10, _⟩ := hsn
   simp only [List.length_map] at h9
   unfold maxLen at *
   omega
 obtain ⟨ml1, ml2, ml3, ml4, ml5⟩ := hml
 have HC := Li (all_of (l := a) (fun x _ => expr_any R B bf x) sa sc (deep + 1) lf W0 hxa hO0 (by omega) hbf hK0 h0 h300 (by omega) (by omega))
 have HU0 := Li hu0; have HK0 := Li hK0; have HE0 := Li E0; have HO := Li ho
 have HIC := Li IHC; have HID := Li IHD; have HPB := Li hpb; have HTX := Li htx; have HSC := Li hsc; have HSD := Li hsd; have HSN := Li hsn; have HZN := Li hzn
 clear hu0 E0 hK0 hO0 hb ho IHC IHD hxa hpb htx hsc hsd hsn hzn
 subst hW0
 have hn1 : ((a.length : Int) != (-1)) = true := by rw [bne_iff_ne]; omega
 have hk7 : (kd == 7) = false := by rw [beq_eq_false_iff_ne]; exact z7
 have FIN : Hid ((FPost bf lf w (fun n => OkS (.mk kd op tx v nm a b c d) ∧ (ctS (.mk kd op tx v nm a b c d) : Int) ≤ n + 1) (.returned (.bool false)) (w.alloc (.cells #[.int .i64 kd, .int .i64 op, .string tx, .slice na nm.length nc, .slice sa a.length sc, .slice pa b.length pc, .slice ba c.length bc, .slice ea d.length ec] 42)))) := Li ⟨false, lf, rfl, HK0.out, HU0.out, by omega, by omega, fun h => by simp at h⟩
 clear HK0 HU0 HE0 HC
 go_enter Tryz.func15, Tryz.ntmps15
 go_wp2_with (go_at_call 19; refine (KK.out _).mono ?_; rintro e w' ⟨rfl, rfl⟩)
 go_ret
 exact FIN.out
set_option maxHeartbeats 6400000 in
theorem stmt_k11 {R : Nat → Nat → Option Value} {B bf : Nat} (op : Int) (tx : ByteArray) (v : VV) (nm : List ByteArray) (a b c d : List Tr) (na sa pa ba ea : Option Addr) (nc sc pc bc ec : Nat) (deep lf : Int) (w : World) (IHC : ∀ s ∈ c, FSt R B bf s) (IHD : ∀ s ∈ d, FSt R B bf s)
   (hsn : SlR R (.slice na nm.length nc) (nm.map .string)) (hzn : ∀ s ∈ nm, s.size ≤ maxLen) (hxa : ExL R a (.slice sa a.length sc)) (hpb : PaL R b (.slice pa b.length pc)) (hsc : StL R c (.slice ba c.length bc)) (hsd : StL R d (.slice ea d.length ec)) (htx : tx.size ≤ maxLen) (ho : Old R B w) (hB : B ≤ w.heap.size) (hbf : B ≤ bf) (hb : Blk w bf 37 [.int .i64 lf]) (h0 : 0 ≤ lf) (h300 : lf ≤ 300) (hd : 0 ≤ deep) (hd2 : deep ≤ 24) :
   Calls Tryz.prog 15 #[.pointer (some ⟨bf, 0, none⟩), .agg #[.int .i64 11, .int .i64 op, .string tx, .slice na nm.length nc, .slice sa a.length sc, .slice pa b.length pc, .slice ba c.length bc, .slice ea d.length ec], .int .i64 deep] w (FPost bf lf w (fun n => OkS (.mk 11 op tx v nm a b c d) ∧ (ctS (.mk 11 op tx v nm a b c d) : Int) ≤ n + 1)) := by
 obtain ⟨W0, hW0⟩ : ∃ W0, W0 = w.alloc (.cells #[.int .i64 11, .int .i64 op, .string tx, .slice na nm.length nc, .slice sa a.length sc, .slice pa b.length pc, .slice ba c.length bc, .slice ea d.length ec] 42) := ⟨_, rfl⟩
 have hu0 : Up (some bf) w W0 := by rw [hW0]; exact (Up.refl (some bf) w).alloc _
 have E0 : Blk W0 w.heap.size 42 [.int .i64 11, .int .i64 op, .string tx, .slice na nm.length nc, .slice sa a.length sc, .slice pa b.length pc, .slice ba c.length bc, .slice ea d.length ec] := by rw [hW0]; exact Blk.new w _ _
 have hbl := hb.lt
 have hK0 : Blk W0 bf 37 [.int .i64 lf] := by rw [hW0]; exact hb.alloc _
 have hW0s : W0.heap.size = w.heap.size + 1 := by rw [hW0]; simp
 have hO0 : Old R B W0 := ho.up hu0 hbf hB
 have hne : w.heap.size ≠ bf := by omega
 have KK : Hid (∀ W, Calls Tryz.prog 19 #[.int .i64 11] W (fun e w' => e = .returned (.int .i64 0) ∧ W = w')) := Li (fun W => by
   have h := treeParts_any 11 W
   have e : tkP 11 = 0 := by decide
   rw [e] at h
   exact h)
 have hml : a.length ≤ 9223372036854775807 ∧ b.length ≤ 9223372036854775807 ∧ c.length ≤ 9223372036854775807 ∧ d.length ≤ 9223372036854775807 ∧ nm.length ≤ 9223372036854775807 := by
   obtain ⟨_, _, _, h1, h2, _⟩ := hxa.form
   obtain ⟨_, _, _, h3, h4, _⟩ := hpb.form
   obtain ⟨_, _, _, h5, h6, _⟩ := hsc.form
   obtain ⟨_, _, _, h7, h8, _⟩ := hsd.form
   obtain ⟨_, _, _, h9, h10, _⟩ := hsn
   simp only [List.length_map] at h9
   unfold maxLen at *
   omega
 obtain ⟨ml1, ml2, ml3, ml4, ml5⟩ := hml
 have HC := Li (all_of (l := a) (fun x _ => expr_any R B bf x) sa sc (deep + 1) lf W0 hxa hO0 (by omega) hbf hK0 h0 h300 (by omega) (by omega))
 have HU0 := Li hu0; have HK0 := Li hK0; have HE0 := Li E0; have HO := Li ho
 have HIC := Li IHC; have HID := Li IHD; have HPB := Li hpb; have HTX := Li htx; have HSC := Li hsc; have HSD := Li hsd; have HSN := Li hsn; have HZN := Li hzn
 clear hu0 E0 hK0 hO0 hb ho IHC IHD hxa hpb htx hsc hsd hsn hzn
 subst hW0
 by_cases hn : a.length ≠ 0
 · have FIN : Hid ((FPost bf lf w (fun n => OkS (.mk 11 op tx v nm a b c d) ∧ (ctS (.mk 11 op tx v nm a b c d) : Int) ≤ n + 1) (.returned (.bool false)) (w.alloc (.cells #[.int .i64 11, .int .i64 op, .string tx, .slice na nm.length nc, .slice sa a.length sc, .slice pa b.length pc, .slice ba c.length bc, .slice ea d.length ec] 42)))) := Li ⟨false, lf, rfl, HK0.out, HU0.out, by omega, by omega, fun h => by simp at h⟩
   have hn1 : ((a.length : Int) != 0) = true := by rw [bne_iff_ne]; omega
   clear HK0 HU0 HE0 HC hn
   go_enter Tryz.func15, Tryz.ntmps15
   go_wp2_with (go_at_call 19; refine (KK.out _).mono ?_; rintro e w' ⟨rfl, rfl⟩)
   go_ret
   exact FIN.out
 have HN : Hid (a.length = 0) := Li (by omega)
 have hn1 : ((a.length : Int) != 0) = false := by rw [bne_eq_false_iff_eq]; omega
 clear hn
 go_enter Tryz.func15, Tryz.ntmps15
 go_wp2_with (go_at_call 19; refine (KK.out _).mono ?_; rintro e w' ⟨rfl, rfl⟩)
 clear KK hn1
 refine HC.out.mono ?_
 rintro e w1 ⟨y, l1, rfl, hb1, hu1, hl11, hl12, hok1⟩
 have HK1 := Li hb1
 have HU1 := Li (HU0.out.trans hu1)
 have hE1 := HE0.out.up hu1 (by simp only [ne_eq, Option.some.injEq]; exact hne)
 have f0 := hE1.cell 0 (by simp)
 have f1 := hE1.cell 1 (by simp)
 have f2 := hE1.cell 2 (by simp)
 have f3 := hE1.cell 3 (by simp)
 have f4 := hE1.cell 4 (by simp)
 have f5 := hE1.cell 5 (by simp)
 have f6 := hE1.cell 6 (by simp)
 have f7 := hE1.cell 7 (by simp)
 have HE1 := Li hE1
 have hs1 : w.heap.size < w1.heap.size := hE1.lt
 have HO1 := Li (HO.out.up HU1.out hbf hB)
 have hw1 : B ≤ w1.heap.size := Nat.le_trans hB HU1.out.size
 have FINF : Hid ((FPost bf lf w (fun n => OkS (.mk 11 op tx v nm a b c d) ∧ (ctS (.mk 11 op tx v nm a b c d) : Int) ≤ n + 1) (.returned (.bool false)) w1)) := Li ⟨false, l1, rfl, HK1.out, HU1.out, hl11, by omega, fun h => by simp at h⟩
 clear hE1 hb1 hu1 HE0 HK0 HU0 HC
 cases y with
 | false =>
   clear HK1 HU1 hok1 HE1
   go_wp2_with fail
   go_ret
   exact FINF.out
 | true =>
 obtain ⟨h01, hP1, hC1⟩ := hok1 rfl
 have HP1 := Li hP1
 clear hok1 hP1
 by_cases hq : 0 < c.length
 · have hz : decide (0 < c.length) = true := decide_eq_true hq
   clear HK1 HU1 HE1
   go_wp2_with fail
   go_ret
   exact FINF.out
 obtain rfl : c = [] := List.length_eq_zero_iff.1 (by omega)
 simp only [List.length_nil] at f6
 clear hq
 by_cases hq : 0 < d.length
 · have hz : decide (0 < d.length) = true := decide_eq_true hq
   clear HK1 HU1 HE1
   go_wp2_with fail
   go_ret
   exact FINF.out
 obtain rfl : d = [] := List.length_eq_zero_iff.1 (by omega)
 simp only [List.length_nil] at f7
 clear hq
 by_cases hq : 0 < b.length
 · have hz : decide (0 < b.length) = true := decide_eq_true hq
   clear HK1 HU1 HE1
   go_wp2_with fail
   go_ret
   exact FINF.out
 obtain rfl : b = [] := List.length_eq_zero_iff.1 (by omega)
 simp only [List.length_nil] at f5
 clear hq
 by_cases hq : 0 < nm.length ∧ nm.length % 2 = 0 ∧ tx.size ≤ 20
 case neg =>
   clear HK1 HU1 HE1
   by_cases q1 : 0 < nm.length
   · have z1 : ((nm.length : Int) == 0) = false := by rw [beq_eq_false_iff_ne]; omega
     by_cases q2 : nm.length % 2 = 0
     · have z2 : ((nm.length : Int) % 2 != 0) = false := by rw [bne_eq_false_iff_eq]; omega
       have q3 : ¬ tx.size ≤ 20 := fun h => hq ⟨q1, q2, h⟩
       have q4 : 20 < tx.size := by omega
       clear hq q2 q3
       go_wp2_with fail
       go_ret
       exact FINF.out
     · have z2 : ((nm.length : Int) % 2 != 0) = true := by rw [bne_iff_ne]; omega
       clear hq q2
       go_wp2_with fail
       go_ret
       exact FINF.out
   · have z1 : ((nm.length : Int) == 0) = true := by rw [beq_iff_eq]; omega
     have z3 : nm.length < 1 := by omega
     clear hq q1
     go_wp2_with fail
     go_ret
     exact FINF.out
 case pos =>
 obtain ⟨q1, q2, q3⟩ := hq
 have z1 : ((nm.length : Int) == 0) = false := by rw [beq_eq_false_iff_ne]; omega
 have z2 : ((nm.length : Int) % 2 != 0) = false := by rw [bne_eq_false_iff_eq]; omega
 have z3 : decide (0 < nm.length) = true := decide_eq_true q1
 clear q2
 have HROW : Hid (∀ k, k < nm.length → ∃ nb no s, na = some ⟨nb, no, none⟩ ∧ w1.cell? ⟨nb, no + k, none⟩ = some (.string s) ∧ s.size ≤ maxLen) := Li (fun k hk => by
   obtain ⟨_, _, e, _, _, hr⟩ := HSN.out
   simp only [Value.slice.injEq, List.length_map, true_and] at e
   obtain ⟨nb, no, hna, hrd⟩ := hr (by intro h; have := congrArg List.length h; simp at this; rw [this] at hk; simp at hk)
   refine ⟨nb, no, nm[k], by rw [e.1]; exact hna, ?_, HZN.out _ (List.getElem_mem hk)⟩
   exact (HO1.out nb (no + k) _ (hrd k _ (by rw [List.getElem?_map, List.getElem?_eq_getElem hk]; rfl))).2)
 go_wp2_with fail
 go_loop [146] (fun i => ∃ k : Nat, k ≤ nm.length ∧ i = .int .i64 k) (fun i => nm.length - (intOf i).toNat)
 case atStart => exact ⟨0, Nat.zero_le _, rfl⟩
 case round =>
 obtain ⟨k, hk, rfl⟩ := hrel
 by_cases hlt : k < nm.length
 · obtain ⟨nb, no, s, rfl, hcell, hsz⟩ := HROW.out k hlt
   have HSZ := Li hsz
   clear hsz
   go_wp2_with (go_at_call 21; refine (isName_any _ _ HSZ.out).mono ?_; rintro e w' ⟨y, rfl, rfl⟩; cases y)
   · go_ret
     exact FINF.out
   · go_round
     case rel => exact ⟨k + 1, by omega, by go_num⟩
     case measure => simp [intOf]; omega
 have hkn : nm.length ≤ k := by omega
 clear hlt
 by_cases hop : ¬ op = 0
 · have hop1 : (op != 0) = true := by rw [bne_iff_ne]; exact hop
   clear HK1 HU1 HE1
   go_wp2_with fail
   go_ret
   exact FINF.out
 obtain rfl : op = 0 := by omega
 clear hop
 have HB := Li (stmts_of (l := ([] : List Tr)) (by intro s hs; simp at hs) ba bc (deep + 1) l1 w1 HSC.out HO1.out hw1 hbf HK1.out h01 (by omega) (by omega) (by omega))
 simp only [List.length_nil] at HB
 go_wp2_with fail
 with_reducible refine HB.out.mono ?_
 rintro e w2 ⟨y, l2, rfl, hb2, hu2, hl21, hl22, hok2⟩
 have hE2 := HE1.out.up hu2 (by simp only [ne_eq, Option.some.injEq]; exact hne)
 have g7 := hE2.cell 7 (by simp)
 simp only [List.length_nil] at g7
 have HU2 := Li (HU1.out.trans hu2)
 have HO2 := Li (HO.out.up HU2.out hbf hB)
 have hw2 : B ≤ w2.heap.size := Nat.le_trans hB HU2.out.size
 have hs2 : w.heap.size < w2.heap.size := hE2.lt
 clear hE2 hu2 HB
 cases y with
 | false =>
   have FIN : Hid ((FPost bf lf w (fun n => OkS (.mk 11 0 tx v nm a ([] : List Tr) ([] : List Tr) ([] : List Tr)) ∧ (ctS (.mk 11 0 tx v nm a ([] : List Tr) ([] : List Tr) ([] : List Tr)) : Int) ≤ n + 1) (.returned (.bool false)) w2)) := Li ⟨false, l2, rfl, hb2, HU2.out, hl21, by omega, fun h => by simp at h⟩
   clear hb2 hok2
   go_wp2_with fail
   go_ret
   exact FIN.out
 | true =>
 obtain ⟨h02, hP2, hC2⟩ := hok2 rfl
 have HP2 := Li hP2
 have HD := Li (stmts_of (l := ([] : List Tr)) (by intro s hs; simp at hs) ea ec (deep + 1) l2 w2 HSD.out HO2.out hw2 hbf hb2 h02 (by omega) (by omega) (by omega))
 simp only [List.length_nil] at HD
 clear hok2 hP2
 go_wp2_with fail
 with_reducible refine HD.out.mono ?_
 rintro e w3 ⟨y, l3, rfl, hb3, hu3, hl31, hl32, hok3⟩
 have FIN : Hid ((FPost bf lf w (fun n => OkS (.mk 11 0 tx v nm a ([] : List Tr) ([] : List Tr) ([] : List Tr)) ∧ (ctS (.mk 11 0 tx v nm a ([] : List Tr) ([] : List Tr) ([] : List Tr)) : Int) ≤ n + 1) (.returned (.bool y)) w3)) := Li ⟨y, l3, rfl, hb3, HU2.out.trans hu3, hl31, by omega, fun h => by
   obtain ⟨h03, hP3, hC3⟩ := hok3 h
   refine ⟨h03, ?_, ?_⟩
   · exact .load _ _ _ _ _ _ _ _
   · rw [ctS_mk]; simp only [ctEs_nil, ctPs_nil, ctSs_nil] at *; omega⟩
 clear hb3 hu3 hok3 HD
 go_wp2_with fail
 go_ret
 exact FIN.out
theorem StV.form {R : Nat → Nat → Option Value} {t : Tr} {cs : List Value} (h : StV R t cs) : ∃ kd op tx v nm a b' c d na nc sa sc pa pc ba bc ea ec, t = .mk kd op tx v nm a b' c d ∧ cs = [.int .i64 kd, .int .i64 op, .string tx, .slice na nm.length nc, .slice sa a.length sc, .slice pa b'.length pc, .slice ba c.length bc, .slice ea d.length ec] ∧ (SlR R (.slice na nm.length nc) (nm.map .string) ∧ (∀ s ∈ nm, s.size ≤ maxLen) ∧ ExL R a (.slice sa a.length sc) ∧ PaL R b' (.slice pa b'.length pc) ∧ StL R c (.slice ba c.length bc) ∧ StL R d (.slice ea d.length ec) ∧ I64 kd ∧ I64 op ∧ tx.size ≤ maxLen) := by
 cases h with
 | mk kd op tx v nm a b' c d sn sa sb sc sd hk ho' ht hn hz h1 h2 h3 h4 =>
   obtain ⟨na, nc, hne, hn2⟩ := hn
   have hn : SlR R sn (nm.map .string) := ⟨na, nc, hne, hn2⟩
   simp only [List.length_map] at hne
   subst hne
   obtain ⟨a1, c1, rfl, _⟩ := h1.form
   obtain ⟨a2, c2, rfl, _⟩ := h2.form
   obtain ⟨a3, c3, rfl, _⟩ := h3.form
   obtain ⟨a4, c4, rfl, _⟩ := h4.form
   exact ⟨kd, op, tx, v, nm, a, b', c, d, na, nc, a1, c1, a2, c2, a3, c3, a4, c4, rfl, rfl, ⟨hn, hz, h1, h2, h3, h4, hk, ho', ht⟩⟩
theorem stmt_upto (R : Nat → Nat → Option Value) (B bf : Nat) (n : Nat) : ∀ t : Tr, SizeOf.sizeOf t < n → FSt R B bf t := by
 induction n with
 | zero => intro t h; omega
 | succ n ih =>
   intro t ht cs deep lf w hx ho hB hbf hb h0 h300 hd hd2
   have IHC : ∀ s ∈ t.c, FSt R B bf s := fun s hs => ih s (by have := mem_c_lt hs; omega)
   have IHD : ∀ s ∈ t.d, FSt R B bf s := fun s hs => ih s (by have := mem_d_lt hs; omega)
   obtain ⟨kd, op, tx, v, nm, a, b, c, d, na, nc, sa, sc, pa, pc, ba, bc, ea, ec, rfl, rfl, hsn, hzn, hxa, hpb, hsc, hsd, hkr, hor, htx⟩ := hx.form
   by_cases z0 : kd = 0
   · subst z0
     exact stmt_k0 op tx v nm a b c d na sa pa ba ea nc sc pc bc ec deep lf w IHC IHD hsn hzn hxa hpb hsc hsd htx ho hB hbf hb h0 h300 hd hd2
   by_cases z1 : kd = 1
   · subst z1
     exact stmt_k1 op tx v nm a b c d na sa pa ba ea nc sc pc bc ec deep lf w IHC IHD hsn hzn hxa hpb hsc hsd htx ho hB hbf hb h0 h300 hd hd2
   by_cases z2 : kd = 2
   · subst z2
     exact stmt_k2 op tx v nm a b c d na sa pa ba ea nc sc pc bc ec deep lf w IHC IHD hsn hzn hxa hpb hsc hsd htx ho hB hbf hb h0 h300 hd hd2
   by_cases z3 : kd = 3
   · subst z3
     exact stmt_k3 op tx v nm a b c d na sa pa ba ea nc sc pc bc ec deep lf w IHC IHD hsn hzn hxa hpb hsc hsd htx ho hB hbf hb h0 h300 hd hd2
   by_cases z4 : kd = 4
   · subst z4
     exact stmt_k4 op tx v nm a b c d na sa pa ba ea nc sc pc bc ec deep lf w IHC IHD hsn hzn hxa hpb hsc hsd htx ho hB hbf hb h0 h300 hd hd2
   by_cases z5 : kd = 5
   · subst z5
     exact stmt_k5 op tx v nm a b c d na sa pa ba ea nc sc pc bc ec deep lf w IHC IHD hsn hzn hxa hpb hsc hsd htx ho hB hbf hb h0 h300 hd hd2
   by_cases z6 : kd = 6
   · subst z6
     exact stmt_k6 op tx v nm a b c d na sa pa ba ea nc sc pc bc ec deep lf w IHC IHD hsn hzn hxa hpb hsc hsd htx ho hB hbf hb h0 h300 hd hd2
   by_cases z7 : kd = 7
   · subst z7
     by_cases h1 : a.length = 1
     · exact stmt_k7one op tx v nm a b c d na sa pa ba ea nc sc pc bc ec deep lf w IHC IHD hsn hzn hxa hpb hsc hsd htx ho hB hbf hb h0 h300 hd hd2 h1
     · by_cases h2 : a.length = 0
       · exact stmt_k7no op tx v nm a b c d na sa pa ba ea nc sc pc bc ec deep lf w IHC IHD hsn hzn hxa hpb hsc hsd htx ho hB hbf hb h0 h300 hd hd2 h2
       · exact stmt_k7two op tx v nm a b c d na sa pa ba ea nc sc pc bc ec deep lf w IHC IHD hsn hzn hxa hpb hsc hsd htx ho hB hbf hb h0 h300 hd hd2 h1 h2
   by_cases z8 : kd = 8
   · subst z8
     exact stmt_k8 op tx v nm a b c d na sa pa ba ea nc sc pc bc ec deep lf w IHC IHD hsn hzn hxa hpb hsc hsd htx ho hB hbf hb h0 h300 hd hd2
   by_cases z9 : kd = 9
   · subst z9
     exact stmt_k9 op tx v nm a b c d na sa pa ba ea nc sc pc bc ec deep lf w IHC IHD hsn hzn hxa hpb hsc hsd htx ho hB hbf hb h0 h300 hd hd2
   by_cases z10 : kd = 10
   · subst z10
     exact stmt_k10 op tx v nm a b c d na sa pa ba ea nc sc pc bc ec deep lf w IHC IHD hsn hzn hxa hpb hsc hsd htx ho hB hbf hb h0 h300 hd hd2
   by_cases z11 : kd = 11
   · subst z11
     exact stmt_k11 op tx v nm a b c d na sa pa ba ea nc sc pc bc ec deep lf w IHC IHD hsn hzn hxa hpb hsc hsd htx ho hB hbf hb h0 h300 hd hd2
   exact stmt_other kd op tx v nm a b c d na sa pa ba ea nc sc pc bc ec deep lf w IHC IHD hsn hzn hxa hpb hsc hsd htx ho hB hbf hb h0 h300 hd hd2 z0 z1 z2 z3 z4 z5 z6 z7 z8 z9 z10 z11
theorem stmt_any (R : Nat → Nat → Option Value) (B bf : Nat) (t : Tr) : FSt R B bf t := stmt_upto R B bf _ t (Nat.lt_succ_self _)
set_option maxHeartbeats 800000 in
theorem fits_any (R : Nat → Nat → Option Value) (nm : ByteArray) (l : List Tr) (a : Option Addr) (c : Nat) (o1 o2 o3 o4 o5 o6 : Bool) (w : World) (hl : StL R l (.slice a l.length c)) (ho : Old R w.heap.size w) (hn : nm.size ≤ maxLen) :
   Calls Tryz.prog 5 #[.agg #[.string nm, .slice a l.length c, .bool o1, .bool o2, .bool o3, .bool o4, .bool o5, .bool o6], .int .i64 300] w (LitPost ((∀ s ∈ l, OkS s) ∧ (ctSs l : Int) ≤ 300) w) := by
 unfold maxLen at hn
 have b1 : Below w.heap.size w (w.alloc (.cells #[.string nm, .slice a l.length c, .bool o1, .bool o2, .bool o3, .bool o4, .bool o5, .bool o6] 26)) := (Below.refl _ _).alloc (Nat.le_refl _) _
 have b2 : Below w.heap.size w ((w.alloc (.cells #[.string nm, .slice a l.length c, .bool o1, .bool o2, .bool o3, .bool o4, .bool o5, .bool o6] 26)).alloc (.cells #[.int .i64 300] 37)) := b1.alloc (by simp) _
 have hbk : Blk ((w.alloc (.cells #[.string nm, .slice a l.length c, .bool o1, .bool o2, .bool o3, .bool o4, .bool o5, .bool o6] 26)).alloc (.cells #[.int .i64 300] 37)) (w.heap.size + 1) 37 [.int .i64 300] := by
   have := Blk.new (w.alloc (.cells #[.string nm, .slice a l.length c, .bool o1, .bool o2, .bool o3, .bool o4, .bool o5, .bool o6] 26)) 37 [.int .i64 300]
   simpa using this
 have HC := Li (stmts_of (B := w.heap.size) (bf := w.heap.size + 1) (l := l) (fun t _ => stmt_any R _ _ t) a c 0 300 _ hl (ho.below b2) (by simp; omega) (by omega) hbk (by omega) (by omega) (by omega) (by omega))
 have HB1 := Li b1; have HB2 := Li b2
 clear hl ho b1 b2 hbk
 by_cases h20 : nm.size ≤ 20
 · have h20' : decide (nm.size ≤ 20) = true := decide_eq_true h20
   go_enter Tryz.func5, Tryz.ntmps5
   go_wp2_with fail
   with_reducible refine HC.out.mono ?_
   rintro e w1 ⟨y, l1, rfl, hb1, hu1, hl11, hl12, hok1⟩
   have FIN : Hid (LitPost ((∀ s ∈ l, OkS s) ∧ (ctSs l : Int) ≤ 300) w (.returned (.bool y)) w1) := Li ⟨y, rfl, fun h => by
     obtain ⟨h01, hP, hC⟩ := hok1 h
     exact ⟨hP, by omega⟩, HB2.out.trans (Up.below hu1 (by simp; omega) (fun k hk => by injection hk with hk; omega))⟩
   clear hb1 hu1 hok1 HC
   go_wp2_with fail
   go_ret
   exact FIN.out
 · have h20' : decide (nm.size ≤ 20) = false := decide_eq_false h20
   have FIN : Hid (LitPost ((∀ s ∈ l, OkS s) ∧ (ctSs l : Int) ≤ 300) w (.returned (.bool false)) (w.alloc (.cells #[.string nm, .slice a l.length c, .bool o1, .bool o2, .bool o3, .bool o4, .bool o5, .bool o6] 26))) := Li ⟨false, rfl, fun h => by simp at h, HB1.out⟩
   clear HC
   go_enter Tryz.func5, Tryz.ntmps5
   go_wp2_with fail
   go_ret
   exact FIN.out
def PlRel (w : World) (l : List Tr) (i : Value) (wr : World) : Prop := ∃ k : Nat, k ≤ l.length ∧ i = .int .i64 (k : Int) ∧ Hid (Below w.heap.size w wr) ∧ Hid (∀ t ∈ l.take k, PlS t)
set_option maxHeartbeats 3200000 in
theorem plain_upto (R : Nat → Nat → Option Value) (B n : Nat) : ∀ (l : List Tr) (a : Option Addr) (c : Nat) (w : World), (∀ t ∈ l, SizeOf.sizeOf t < n) → StL R l (.slice a l.length c) → Old R B w → B ≤ w.heap.size →
   Calls Tryz.prog 6 #[.slice a l.length c] w (LitPost (∀ t ∈ l, PlS t) w) := by
 induction n with
 | zero =>
   intro l a c w hsz hl ho hB
   obtain rfl : l = [] := by
     cases l with
     | nil => rfl
     | cons t l => exact absurd (hsz t (by simp)) (by omega)
   have FIN : Hid (LitPost (∀ t ∈ ([] : List Tr), PlS t) w (.returned (.bool true)) w) := Li ⟨true, rfl, fun _ => by simp, Below.refl _ _⟩
   clear hsz hl ho
   go_enter Tryz.func6, Tryz.ntmps6
   go_wp2_with fail
   go_loopw [7] (PlRel w []) (fun i _ => 1)
   case atStart => exact ⟨0, by simp, rfl, Li (Below.refl _ _), Li (by simp)⟩
   case round =>
     obtain ⟨k, hk, rfl, HBL, HOK⟩ := hrel
     obtain rfl : k = 0 := by simpa using hk
     have FIN2 : Hid (LitPost (∀ t ∈ ([] : List Tr), PlS t) w (.returned (.bool true)) wr) := Li ⟨true, rfl, fun _ => by simp, HBL.out⟩
     clear hk FIN HOK
     go_wp2_with fail
     go_ret
     exact FIN2.out
 | succ n ih =>
   intro l a c w hsz hl ho hB
   obtain ⟨a', c', e, hc, hm, hrow⟩ := hl.form
   simp only [Value.slice.injEq, true_and] at e
   obtain ⟨rfl, rfl⟩ := e
   unfold maxLen at hm
   have START : Hid (PlRel w l (.int .i64 0) w) := Li ⟨0, by simp, rfl, Li (Below.refl _ _), Li (by simp)⟩
   have HO := Li ho; have HR := Li hrow; have HSZ := Li hsz; have IH := Li ih
   clear hsz hl ho hrow ih
   go_enter Tryz.func6, Tryz.ntmps6
   go_wp2_with fail
   go_loopw [7] (PlRel w l) (fun i _ => l.length - (intOf i).toNat)
   case atStart => exact START.out
   case round =>
     obtain ⟨k, hk, rfl, HBL, HOK⟩ := hrel
     clear START
     by_cases hlt : k < l.length
     · obtain ⟨t, ht⟩ : ∃ t, l[k]? = some t := ⟨_, List.getElem?_eq_getElem hlt⟩
       have hwr : Old R B wr := HO.out.below (HBL.out.mono hB)
       obtain ⟨b, o, rfl, hx⟩ := HR.out (by intro h; rw [h] at hlt; simp at hlt)
       obtain ⟨kd, op, tx, v, nm, ca, cb, cc, cd, na, nc, sa, sc, pa, pc, ba, bc, ea, ec, et, hxv, ⟨hsn, hzn, hxa, hpb, hsc, hsd, hkr, hor, htx⟩, hbB, c0, c1, c2, c3, c4, c5, c6, c7⟩ := (hx k t ht).cells hwr
       have hsw : B ≤ wr.heap.size := Nat.le_trans hB HBL.out.size
       obtain ⟨W0, hW0⟩ : ∃ W0, W0 = wr.alloc (.cells #[.int .i64 kd, .int .i64 op, .string tx, .slice na nm.length nc, .slice sa ca.length sc, .slice pa cb.length pc, .slice ba cc.length bc, .slice ea cd.length ec] 42) := ⟨_, rfl⟩
       have hb0 : Below wr.heap.size wr W0 := by rw [hW0]; exact (Below.refl _ _).alloc (Nat.le_refl _) _
       have E0 : Blk W0 wr.heap.size 42 [.int .i64 kd, .int .i64 op, .string tx, .slice na nm.length nc, .slice sa ca.length sc, .slice pa cb.length pc, .slice ba cc.length bc, .slice ea cd.length ec] := by rw [hW0]; exact Blk.new wr _ _
       have hst := HSZ.out t (List.mem_of_getElem? ht)
       have HC1 := Li (IH.out cc ba bc W0 (fun s hs => by have := mem_c_lt (t := t) (by rw [et]; exact hs); omega) hsc (hwr.below (hb0.mono hsw)) (Nat.le_trans hsw hb0.size))
       have HT := Li ht; have HET := Li et; have HSD := Li hsd
       have HST := Li hst
       have HB0 := Li hb0
       have HE0 := Li E0
       have FIN0 : Hid (LitPost (∀ t ∈ l, PlS t) w (.returned (.bool false)) W0) := Li ⟨false, rfl, fun h => by simp at h, HBL.out.trans (hb0.mono HBL.out.size)⟩
       clear ht et hxv hsn hzn hxa hpb hsc hsd hkr hor htx hx hwr hb0 E0 hst
       subst hW0
       by_cases hk11 : kd = 11
       · subst hk11
         go_wp2_with fail
         go_ret
         exact FIN0.out
       have hk1 : (kd == 11) = false := by rw [beq_eq_false_iff_ne]; exact hk11
       have HK11 := Li hk11
       clear hk11 FIN0
       go_wp2_with fail
       with_reducible refine HC1.out.mono ?_
       rintro e w1 ⟨y, rfl, hok1, hb1⟩
       have HB1 := Li (HB0.out.trans (hb1.mono HB0.out.size))
       have hE1 := HE0.out.below hb1 HE0.out.lt
       have f7 := hE1.cell 7 (by simp)
       have HO1 := Li (HO.out.below ((HBL.out.trans (HB1.out.mono HBL.out.size)).mono hB))
       have HOK1 := Li hok1
       have hs1 := hE1.lt
       clear hE1 hb1 hok1 HC1 HB0 HE0
       cases y with
       | false =>
         have FIN : Hid (LitPost (∀ t ∈ l, PlS t) w (.returned (.bool false)) w1) := Li ⟨false, rfl, fun h => by simp at h, HBL.out.trans (HB1.out.mono HBL.out.size)⟩
         clear HB1
         go_wp2_with fail
         go_ret
         exact FIN.out
       | true =>
       have HC2 := Li (IH.out cd ea ec w1 (fun s hs => by have := mem_d_lt (t := t) (by rw [HET.out]; exact hs); have := HST.out; omega) HSD.out HO1.out (by omega))
       go_wp2_with fail
       with_reducible refine HC2.out.mono ?_
       rintro e w2 ⟨y, rfl, hok2, hb2⟩
       have HB2 := Li (HB1.out.trans (hb2.mono HB1.out.size))
       cases y with
       | false =>
         have FIN : Hid (LitPost (∀ t ∈ l, PlS t) w (.returned (.bool false)) w2) := Li ⟨false, rfl, fun h => by simp at h, HBL.out.trans (HB2.out.mono HBL.out.size)⟩
         clear HB1 HB2 hb2 hok2 HC2
         go_wp2_with fail
         go_ret
         exact FIN.out
       | true =>
         have FIN : Hid (PlRel w l (.int .i64 ((k : Int) + 1)) w2) := Li ⟨k + 1, hlt, by simp, Li (HBL.out.trans (HB2.out.mono HBL.out.size)), Li (by
           rw [take_succ_of HT.out]
           intro x hx
           rcases List.mem_append.1 hx with h | h
           · exact HOK.out x h
           · simp at h; subst h
             rw [HET.out]
             exact .mk _ _ _ _ _ _ _ _ _ HK11.out (HOK1.out (by simp)) (hok2 rfl))⟩
         clear HB1 HB2 hb2 hok2 HC2
         go_wp2_with fail
         go_roundw
         case rel => first | exact FIN.out | ((repeat apply Exists.intro); exact ⟨FIN.out, rfl⟩)
         case measure => simp [intOf]; omega
     · obtain rfl : k = l.length := by omega
       have FIN : Hid (LitPost (∀ t ∈ l, PlS t) w (.returned (.bool true)) wr) := Li ⟨true, rfl, fun _ => by have := HOK.out; rwa [List.take_of_length_le (Nat.le_refl _)] at this, HBL.out⟩
       clear HBL HOK
       go_wp2_with fail
       go_ret
       exact FIN.out
theorem plain_any (R : Nat → Nat → Option Value) (B : Nat) (l : List Tr) (a : Option Addr) (c : Nat) (w : World) (hl : StL R l (.slice a l.length c)) (ho : Old R B w) (hB : B ≤ w.heap.size) :
   Calls Tryz.prog 6 #[.slice a l.length c] w (LitPost (∀ t ∈ l, PlS t) w) :=
 plain_upto R B (SizeOf.sizeOf l) l a c w (fun t ht => List.sizeOf_lt_of_mem ht) hl ho hB
end Go.Proofs.YtoojgjhfmmohbaaGreat
