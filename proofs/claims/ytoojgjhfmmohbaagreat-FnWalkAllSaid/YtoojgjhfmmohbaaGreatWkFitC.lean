/- treeFitter.stmt: it answers true only at a statement that a text could have; one theorem a kind (printed by genwkstmt.py). -/
import Derived.Test.YtoojgjhfmmohbaaGreatMFitc
namespace Go.Proofs.YtoojgjhfmmohbaaGreat
open Go.RowKit
set_option linter.unusedVariables false
set_option linter.unusedSimpArgs false
set_option maxRecDepth 100000
set_option maxHeartbeats 6400000 in
theorem stmt_k0 {R : Nat → Nat → Option Value} {B bf : Nat} (op : Int) (tx : ByteArray) (v : VV) (nm : List ByteArray) (a b c d : List Tr) (na sa pa ba ea : Option Addr) (nc sc pc bc ec : Nat) (deep lf : Int) (w : World) (IHC : ∀ s ∈ c, FSt R B bf s) (IHD : ∀ s ∈ d, FSt R B bf s)
   (hsn : SlR R (.slice na nm.length nc) (nm.map .string)) (hzn : ∀ s ∈ nm, s.size ≤ maxLen) (hxa : ExL R a (.slice sa a.length sc)) (hpb : PaL R b (.slice pa b.length pc)) (hsc : StL R c (.slice ba c.length bc)) (hsd : StL R d (.slice ea d.length ec)) (htx : tx.size ≤ maxLen) (ho : Old R B w) (hB : B ≤ w.heap.size) (hbf : B ≤ bf) (hb : Blk w bf 37 [.int .i64 lf]) (h0 : 0 ≤ lf) (h300 : lf ≤ 300) (hd : 0 ≤ deep) (hd2 : deep ≤ 24) :
   Calls Tryz.prog 15 #[.pointer (some ⟨bf, 0, none⟩), .agg #[.int .i64 0, .int .i64 op, .string tx, .slice na nm.length nc, .slice sa a.length sc, .slice pa b.length pc, .slice ba c.length bc, .slice ea d.length ec], .int .i64 deep] w (FPost bf lf w (fun n => OkS (.mk 0 op tx v nm a b c d) ∧ (ctS (.mk 0 op tx v nm a b c d) : Int) ≤ n + 1)) := by
 obtain ⟨W0, hW0⟩ : ∃ W0, W0 = w.alloc (.cells #[.int .i64 0, .int .i64 op, .string tx, .slice na nm.length nc, .slice sa a.length sc, .slice pa b.length pc, .slice ba c.length bc, .slice ea d.length ec] 42) := ⟨_, rfl⟩
 have hu0 : Up (some bf) w W0 := by rw [hW0]; exact (Up.refl (some bf) w).alloc _
 have E0 : Blk W0 w.heap.size 42 [.int .i64 0, .int .i64 op, .string tx, .slice na nm.length nc, .slice sa a.length sc, .slice pa b.length pc, .slice ba c.length bc, .slice ea d.length ec] := by rw [hW0]; exact Blk.new w _ _
 have hbl := hb.lt
 have hK0 : Blk W0 bf 37 [.int .i64 lf] := by rw [hW0]; exact hb.alloc _
 have hW0s : W0.heap.size = w.heap.size + 1 := by rw [hW0]; simp
 have hO0 : Old R B W0 := ho.up hu0 hbf hB
 have hne : w.heap.size ≠ bf := by omega
 have KK : Hid (∀ W, Calls Tryz.prog 19 #[.int .i64 0] W (fun e w' => e = .returned (.int .i64 1) ∧ W = w')) := Li (fun W => by
   have h := treeParts_any 0 W
   have e : tkP 0 = 1 := by decide
   rw [e] at h
   exact h)
 have hml : a.length ≤ 9223372036854775807 ∧ b.length ≤ 9223372036854775807 ∧ c.length ≤ 9223372036854775807 ∧ d.length ≤ 9223372036854775807 ∧ nm.length ≤ 9223372036854775807 := by
   obtain ⟨_, _, _, h1, h2, _⟩ := hxa.form
   obtain ⟨_, _, _, h3, h4, _⟩ := hpb.form
   obtain ⟨_, _, _, h5, h6, _⟩ := hsc.form
   obtain ⟨_, _, _, h7, h8, _⟩ := hsd.form
   obtain ⟨_, _, _, h9, h10, _⟩ := hsn
   simp only [List.length_map] at h9
   unfold maxLen at *
   omega
 obtain ⟨ml1, ml2, ml3, ml4, ml5⟩ := hml
 have HC := Li (all_of (l := a) (fun x _ => expr_any R B bf x) sa sc (deep + 1) lf W0 hxa hO0 (by omega) hbf hK0 h0 h300 (by omega) (by omega))
 have HU0 := Li hu0; have HK0 := Li hK0; have HE0 := Li E0; have HO := Li ho
 have HIC := Li IHC; have HID := Li IHD; have HPB := Li hpb; have HTX := Li htx; have HSC := Li hsc; have HSD := Li hsd; have HSN := Li hsn; have HZN := Li hzn
 clear hu0 E0 hK0 hO0 hb ho IHC IHD hxa hpb htx hsc hsd hsn hzn
 subst hW0
 by_cases hn : a.length ≠ 1
 · have FIN : Hid ((FPost bf lf w (fun n => OkS (.mk 0 op tx v nm a b c d) ∧ (ctS (.mk 0 op tx v nm a b c d) : Int) ≤ n + 1) (.returned (.bool false)) (w.alloc (.cells #[.int .i64 0, .int .i64 op, .string tx, .slice na nm.length nc, .slice sa a.length sc, .slice pa b.length pc, .slice ba c.length bc, .slice ea d.length ec] 42)))) := Li ⟨false, lf, rfl, HK0.out, HU0.out, by omega, by omega, fun h => by simp at h⟩
   have hn1 : ((a.length : Int) != 1) = true := by rw [bne_iff_ne]; omega
   clear HK0 HU0 HE0 HC hn
   go_enter Tryz.func15, Tryz.ntmps15
   go_wp2_with (go_at_call 19; refine (KK.out _).mono ?_; rintro e w' ⟨rfl, rfl⟩)
   go_ret
   exact FIN.out
 have HN : Hid (a.length = 1) := Li (by omega)
 have hn1 : ((a.length : Int) != 1) = false := by rw [bne_eq_false_iff_eq]; omega
 clear hn
 go_enter Tryz.func15, Tryz.ntmps15
 go_wp2_with (go_at_call 19; refine (KK.out _).mono ?_; rintro e w' ⟨rfl, rfl⟩)
 clear KK hn1
 refine HC.out.mono ?_
 rintro e w1 ⟨y, l1, rfl, hb1, hu1, hl11, hl12, hok1⟩
 have HK1 := Li hb1
 have HU1 := Li (HU0.out.trans hu1)
 have hE1 := HE0.out.up hu1 (by simp only [ne_eq, Option.some.injEq]; exact hne)
 have f0 := hE1.cell 0 (by simp)
 have f1 := hE1.cell 1 (by simp)
 have f2 := hE1.cell 2 (by simp)
 have f3 := hE1.cell 3 (by simp)
 have f4 := hE1.cell 4 (by simp)
 have f5 := hE1.cell 5 (by simp)
 have f6 := hE1.cell 6 (by simp)
 have f7 := hE1.cell 7 (by simp)
 have HE1 := Li hE1
 have hs1 : w.heap.size < w1.heap.size := hE1.lt
 have HO1 := Li (HO.out.up HU1.out hbf hB)
 have hw1 : B ≤ w1.heap.size := Nat.le_trans hB HU1.out.size
 have FINF : Hid ((FPost bf lf w (fun n => OkS (.mk 0 op tx v nm a b c d) ∧ (ctS (.mk 0 op tx v nm a b c d) : Int) ≤ n + 1) (.returned (.bool false)) w1)) := Li ⟨false, l1, rfl, HK1.out, HU1.out, hl11, by omega, fun h => by simp at h⟩
 clear hE1 hb1 hu1 HE0 HK0 HU0 HC
 cases y with
 | false =>
   clear HK1 HU1 hok1 HE1
   go_wp2_with fail
   go_ret
   exact FINF.out
 | true =>
 obtain ⟨h01, hP1, hC1⟩ := hok1 rfl
 have HP1 := Li hP1
 clear hok1 hP1
 by_cases hq : 0 < c.length
 · have hz : decide (0 < c.length) = true := decide_eq_true hq
   clear HK1 HU1 HE1
   go_wp2_with fail
   go_ret
   exact FINF.out
 obtain rfl : c = [] := List.length_eq_zero_iff.1 (by omega)
 simp only [List.length_nil] at f6
 clear hq
 by_cases hq : 0 < d.length
 · have hz : decide (0 < d.length) = true := decide_eq_true hq
   clear HK1 HU1 HE1
   go_wp2_with fail
   go_ret
   exact FINF.out
 obtain rfl : d = [] := List.length_eq_zero_iff.1 (by omega)
 simp only [List.length_nil] at f7
 clear hq
 by_cases hq : 0 < b.length
 · have hz : decide (0 < b.length) = true := decide_eq_true hq
   clear HK1 HU1 HE1
   go_wp2_with fail
   go_ret
   exact FINF.out
 obtain rfl : b = [] := List.length_eq_zero_iff.1 (by omega)
 simp only [List.length_nil] at f5
 clear hq
 by_cases hq : 0 < nm.length
 · have hz : decide (0 < nm.length) = true := decide_eq_true hq
   clear HK1 HU1 HE1
   go_wp2_with fail
   go_ret
   exact FINF.out
 obtain rfl : nm = [] := List.length_eq_zero_iff.1 (by omega)
 simp only [List.length_nil] at f3
 clear hq
 by_cases hop : ¬ op = 0
 · have hop1 : (op != 0) = true := by rw [bne_iff_ne]; exact hop
   clear HK1 HU1 HE1
   go_wp2_with fail
   go_ret
   exact FINF.out
 obtain rfl : op = 0 := by omega
 clear hop
 by_cases htx : tx.toList.isEmpty = false
 · clear HK1 HU1 HE1
   go_wp2_with fail
   go_ret
   exact FINF.out
 have htx1 : tx.toList.isEmpty = true := by simpa using htx
 clear htx
 have HB := Li (stmts_of (l := ([] : List Tr)) (by intro s hs; simp at hs) ba bc (deep + 1) l1 w1 HSC.out HO1.out hw1 hbf HK1.out h01 (by omega) (by omega) (by omega))
 simp only [List.length_nil] at HB
 go_wp2_with fail
 with_reducible refine HB.out.mono ?_
 rintro e w2 ⟨y, l2, rfl, hb2, hu2, hl21, hl22, hok2⟩
 have hE2 := HE1.out.up hu2 (by simp only [ne_eq, Option.some.injEq]; exact hne)
 have g7 := hE2.cell 7 (by simp)
 simp only [List.length_nil] at g7
 have HU2 := Li (HU1.out.trans hu2)
 have HO2 := Li (HO.out.up HU2.out hbf hB)
 have hw2 : B ≤ w2.heap.size := Nat.le_trans hB HU2.out.size
 have hs2 : w.heap.size < w2.heap.size := hE2.lt
 clear hE2 hu2 HB
 cases y with
 | false =>
   have FIN : Hid ((FPost bf lf w (fun n => OkS (.mk 0 0 tx v ([] : List ByteArray) a ([] : List Tr) ([] : List Tr) ([] : List Tr)) ∧ (ctS (.mk 0 0 tx v ([] : List ByteArray) a ([] : List Tr) ([] : List Tr) ([] : List Tr)) : Int) ≤ n + 1) (.returned (.bool false)) w2)) := Li ⟨false, l2, rfl, hb2, HU2.out, hl21, by omega, fun h => by simp at h⟩
   clear hb2 hok2
   go_wp2_with fail
   go_ret
   exact FIN.out
 | true =>
 obtain ⟨h02, hP2, hC2⟩ := hok2 rfl
 have HP2 := Li hP2
 have HD := Li (stmts_of (l := ([] : List Tr)) (by intro s hs; simp at hs) ea ec (deep + 1) l2 w2 HSD.out HO2.out hw2 hbf hb2 h02 (by omega) (by omega) (by omega))
 simp only [List.length_nil] at HD
 clear hok2 hP2
 go_wp2_with fail
 with_reducible refine HD.out.mono ?_
 rintro e w3 ⟨y, l3, rfl, hb3, hu3, hl31, hl32, hok3⟩
 have FIN : Hid ((FPost bf lf w (fun n => OkS (.mk 0 0 tx v ([] : List ByteArray) a ([] : List Tr) ([] : List Tr) ([] : List Tr)) ∧ (ctS (.mk 0 0 tx v ([] : List ByteArray) a ([] : List Tr) ([] : List Tr) ([] : List Tr)) : Int) ≤ n + 1) (.returned (.bool y)) w3)) := Li ⟨y, l3, rfl, hb3, HU2.out.trans hu3, hl31, by omega, fun h => by
   obtain ⟨h03, hP3, hC3⟩ := hok3 h
   refine ⟨h03, ?_, ?_⟩
   · obtain ⟨x, e⟩ := len1 HN.out; rw [e]; have hx := HP1.out x (by rw [e]; simp); exact .expr _ _ _ _ _ hx
   · rw [ctS_mk]; simp only [ctEs_nil, ctPs_nil, ctSs_nil] at *; omega⟩
 clear hb3 hu3 hok3 HD
 go_wp2_with fail
 go_ret
 exact FIN.out
set_option maxHeartbeats 6400000 in
theorem stmt_k1 {R : Nat → Nat → Option Value} {B bf : Nat} (op : Int) (tx : ByteArray) (v : VV) (nm : List ByteArray) (a b c d : List Tr) (na sa pa ba ea : Option Addr) (nc sc pc bc ec : Nat) (deep lf : Int) (w : World) (IHC : ∀ s ∈ c, FSt R B bf s) (IHD : ∀ s ∈ d, FSt R B bf s)
   (hsn : SlR R (.slice na nm.length nc) (nm.map .string)) (hzn : ∀ s ∈ nm, s.size ≤ maxLen) (hxa : ExL R a (.slice sa a.length sc)) (hpb : PaL R b (.slice pa b.length pc)) (hsc : StL R c (.slice ba c.length bc)) (hsd : StL R d (.slice ea d.length ec)) (htx : tx.size ≤ maxLen) (ho : Old R B w) (hB : B ≤ w.heap.size) (hbf : B ≤ bf) (hb : Blk w bf 37 [.int .i64 lf]) (h0 : 0 ≤ lf) (h300 : lf ≤ 300) (hd : 0 ≤ deep) (hd2 : deep ≤ 24) :
   Calls Tryz.prog 15 #[.pointer (some ⟨bf, 0, none⟩), .agg #[.int .i64 1, .int .i64 op, .string tx, .slice na nm.length nc, .slice sa a.length sc, .slice pa b.length pc, .slice ba c.length bc, .slice ea d.length ec], .int .i64 deep] w (FPost bf lf w (fun n => OkS (.mk 1 op tx v nm a b c d) ∧ (ctS (.mk 1 op tx v nm a b c d) : Int) ≤ n + 1)) := by
 obtain ⟨W0, hW0⟩ : ∃ W0, W0 = w.alloc (.cells #[.int .i64 1, .int .i64 op, .string tx, .slice na nm.length nc, .slice sa a.length sc, .slice pa b.length pc, .slice ba c.length bc, .slice ea d.length ec] 42) := ⟨_, rfl⟩
 have hu0 : Up (some bf) w W0 := by rw [hW0]; exact (Up.refl (some bf) w).alloc _
 have E0 : Blk W0 w.heap.size 42 [.int .i64 1, .int .i64 op, .string tx, .slice na nm.length nc, .slice sa a.length sc, .slice pa b.length pc, .slice ba c.length bc, .slice ea d.length ec] := by rw [hW0]; exact Blk.new w _ _
 have hbl := hb.lt
 have hK0 : Blk W0 bf 37 [.int .i64 lf] := by rw [hW0]; exact hb.alloc _
 have hW0s : W0.heap.size = w.heap.size + 1 := by rw [hW0]; simp
 have hO0 : Old R B W0 := ho.up hu0 hbf hB
 have hne : w.heap.size ≠ bf := by omega
 have KK : Hid (∀ W, Calls Tryz.prog 19 #[.int .i64 1] W (fun e w' => e = .returned (.int .i64 2) ∧ W = w')) := Li (fun W => by
   have h := treeParts_any 1 W
   have e : tkP 1 = 2 := by decide
   rw [e] at h
   exact h)
 have hml : a.length ≤ 9223372036854775807 ∧ b.length ≤ 9223372036854775807 ∧ c.length ≤ 9223372036854775807 ∧ d.length ≤ 9223372036854775807 ∧ nm.length ≤ 9223372036854775807 := by
   obtain ⟨_, _, _, h1, h2, _⟩ := hxa.form
   obtain ⟨_, _, _, h3, h4, _⟩ := hpb.form
   obtain ⟨_, _, _, h5, h6, _⟩ := hsc.form
   obtain ⟨_, _, _, h7, h8, _⟩ := hsd.form
   obtain ⟨_, _, _, h9, h10, _⟩ := hsn
   simp only [List.length_map] at h9
   unfold maxLen at *
   omega
 obtain ⟨ml1, ml2, ml3, ml4, ml5⟩ := hml
 have HC := Li (all_of (l := a) (fun x _ => expr_any R B bf x) sa sc (deep + 1) lf W0 hxa hO0 (by omega) hbf hK0 h0 h300 (by omega) (by omega))
 have HU0 := Li hu0; have HK0 := Li hK0; have HE0 := Li E0; have HO := Li ho
 have HIC := Li IHC; have HID := Li IHD; have HPB := Li hpb; have HTX := Li htx; have HSC := Li hsc; have HSD := Li hsd; have HSN := Li hsn; have HZN := Li hzn
 clear hu0 E0 hK0 hO0 hb ho IHC IHD hxa hpb htx hsc hsd hsn hzn
 subst hW0
 by_cases hn : a.length ≠ 2
 · have FIN : Hid ((FPost bf lf w (fun n => OkS (.mk 1 op tx v nm a b c d) ∧ (ctS (.mk 1 op tx v nm a b c d) : Int) ≤ n + 1) (.returned (.bool false)) (w.alloc (.cells #[.int .i64 1, .int .i64 op, .string tx, .slice na nm.length nc, .slice sa a.length sc, .slice pa b.length pc, .slice ba c.length bc, .slice ea d.length ec] 42)))) := Li ⟨false, lf, rfl, HK0.out, HU0.out, by omega, by omega, fun h => by simp at h⟩
   have hn1 : ((a.length : Int) != 2) = true := by rw [bne_iff_ne]; omega
   clear HK0 HU0 HE0 HC hn
   go_enter Tryz.func15, Tryz.ntmps15
   go_wp2_with (go_at_call 19; refine (KK.out _).mono ?_; rintro e w' ⟨rfl, rfl⟩)
   go_ret
   exact FIN.out
 have HN : Hid (a.length = 2) := Li (by omega)
 have hn1 : ((a.length : Int) != 2) = false := by rw [bne_eq_false_iff_eq]; omega
 clear hn
 go_enter Tryz.func15, Tryz.ntmps15
 go_wp2_with (go_at_call 19; refine (KK.out _).mono ?_; rintro e w' ⟨rfl, rfl⟩)
 clear KK hn1
 refine HC.out.mono ?_
 rintro e w1 ⟨y, l1, rfl, hb1, hu1, hl11, hl12, hok1⟩
 have HK1 := Li hb1
 have HU1 := Li (HU0.out.trans hu1)
 have hE1 := HE0.out.up hu1 (by simp only [ne_eq, Option.some.injEq]; exact hne)
 have f0 := hE1.cell 0 (by simp)
 have f1 := hE1.cell 1 (by simp)
 have f2 := hE1.cell 2 (by simp)
 have f3 := hE1.cell 3 (by simp)
 have f4 := hE1.cell 4 (by simp)
 have f5 := hE1.cell 5 (by simp)
 have f6 := hE1.cell 6 (by simp)
 have f7 := hE1.cell 7 (by simp)
 have HE1 := Li hE1
 have hs1 : w.heap.size < w1.heap.size := hE1.lt
 have HO1 := Li (HO.out.up HU1.out hbf hB)
 have hw1 : B ≤ w1.heap.size := Nat.le_trans hB HU1.out.size
 have FINF : Hid ((FPost bf lf w (fun n => OkS (.mk 1 op tx v nm a b c d) ∧ (ctS (.mk 1 op tx v nm a b c d) : Int) ≤ n + 1) (.returned (.bool false)) w1)) := Li ⟨false, l1, rfl, HK1.out, HU1.out, hl11, by omega, fun h => by simp at h⟩
 clear hE1 hb1 hu1 HE0 HK0 HU0 HC
 cases y with
 | false =>
   clear HK1 HU1 hok1 HE1
   go_wp2_with fail
   go_ret
   exact FINF.out
 | true =>
 obtain ⟨h01, hP1, hC1⟩ := hok1 rfl
 have HP1 := Li hP1
 clear hok1 hP1
 by_cases hq : 0 < c.length
 · have hz : decide (0 < c.length) = true := decide_eq_true hq
   clear HK1 HU1 HE1
   go_wp2_with fail
   go_ret
   exact FINF.out
 obtain rfl : c = [] := List.length_eq_zero_iff.1 (by omega)
 simp only [List.length_nil] at f6
 clear hq
 by_cases hq : 0 < d.length
 · have hz : decide (0 < d.length) = true := decide_eq_true hq
   clear HK1 HU1 HE1
   go_wp2_with fail
   go_ret
   exact FINF.out
 obtain rfl : d = [] := List.length_eq_zero_iff.1 (by omega)
 simp only [List.length_nil] at f7
 clear hq
 by_cases hq : 0 < b.length
 · have hz : decide (0 < b.length) = true := decide_eq_true hq
   clear HK1 HU1 HE1
   go_wp2_with fail
   go_ret
   exact FINF.out
 obtain rfl : b = [] := List.length_eq_zero_iff.1 (by omega)
 simp only [List.length_nil] at f5
 clear hq
 by_cases hq : 0 < nm.length
 · have hz : decide (0 < nm.length) = true := decide_eq_true hq
   clear HK1 HU1 HE1
   go_wp2_with fail
   go_ret
   exact FINF.out
 obtain rfl : nm = [] := List.length_eq_zero_iff.1 (by omega)
 simp only [List.length_nil] at f3
 clear hq
 by_cases hop : ¬ op = 0
 · have hop1 : (op != 0) = true := by rw [bne_iff_ne]; exact hop
   clear HK1 HU1 HE1
   go_wp2_with fail
   go_ret
   exact FINF.out
 obtain rfl : op = 0 := by omega
 clear hop
 by_cases htx : tx.toList.isEmpty = false
 · clear HK1 HU1 HE1
   go_wp2_with fail
   go_ret
   exact FINF.out
 have htx1 : tx.toList.isEmpty = true := by simpa using htx
 clear htx
 have HB := Li (stmts_of (l := ([] : List Tr)) (by intro s hs; simp at hs) ba bc (deep + 1) l1 w1 HSC.out HO1.out hw1 hbf HK1.out h01 (by omega) (by omega) (by omega))
 simp only [List.length_nil] at HB
 go_wp2_with fail
 with_reducible refine HB.out.mono ?_
 rintro e w2 ⟨y, l2, rfl, hb2, hu2, hl21, hl22, hok2⟩
 have hE2 := HE1.out.up hu2 (by simp only [ne_eq, Option.some.injEq]; exact hne)
 have g7 := hE2.cell 7 (by simp)
 simp only [List.length_nil] at g7
 have HU2 := Li (HU1.out.trans hu2)
 have HO2 := Li (HO.out.up HU2.out hbf hB)
 have hw2 : B ≤ w2.heap.size := Nat.le_trans hB HU2.out.size
 have hs2 : w.heap.size < w2.heap.size := hE2.lt
 clear hE2 hu2 HB
 cases y with
 | false =>
   have FIN : Hid ((FPost bf lf w (fun n => OkS (.mk 1 0 tx v ([] : List ByteArray) a ([] : List Tr) ([] : List Tr) ([] : List Tr)) ∧ (ctS (.mk 1 0 tx v ([] : List ByteArray) a ([] : List Tr) ([] : List Tr) ([] : List Tr)) : Int) ≤ n + 1) (.returned (.bool false)) w2)) := Li ⟨false, l2, rfl, hb2, HU2.out, hl21, by omega, fun h => by simp at h⟩
   clear hb2 hok2
   go_wp2_with fail
   go_ret
   exact FIN.out
 | true =>
 obtain ⟨h02, hP2, hC2⟩ := hok2 rfl
 have HP2 := Li hP2
 have HD := Li (stmts_of (l := ([] : List Tr)) (by intro s hs; simp at hs) ea ec (deep + 1) l2 w2 HSD.out HO2.out hw2 hbf hb2 h02 (by omega) (by omega) (by omega))
 simp only [List.length_nil] at HD
 clear hok2 hP2
 go_wp2_with fail
 with_reducible refine HD.out.mono ?_
 rintro e w3 ⟨y, l3, rfl, hb3, hu3, hl31, hl32, hok3⟩
 have FIN : Hid ((FPost bf lf w (fun n => OkS (.mk 1 0 tx v ([] : List ByteArray) a ([] : List Tr) ([] : List Tr) ([] : List Tr)) ∧ (ctS (.mk 1 0 tx v ([] : List ByteArray) a ([] : List Tr) ([] : List Tr) ([] : List Tr)) : Int) ≤ n + 1) (.returned (.bool y)) w3)) := Li ⟨y, l3, rfl, hb3, HU2.out.trans hu3, hl31, by omega, fun h => by
   obtain ⟨h03, hP3, hC3⟩ := hok3 h
   refine ⟨h03, ?_, ?_⟩
   · obtain ⟨x, y, e⟩ := len2 HN.out; rw [e]; have hx := HP1.out x (by rw [e]; simp); have hy := HP1.out y (by rw [e]; simp); exact .asg _ _ _ _ _ _ hx hy
   · rw [ctS_mk]; simp only [ctEs_nil, ctPs_nil, ctSs_nil] at *; omega⟩
 clear hb3 hu3 hok3 HD
 go_wp2_with fail
 go_ret
 exact FIN.out
set_option maxHeartbeats 6400000 in
theorem stmt_k2 {R : Nat → Nat → Option Value} {B bf : Nat} (op : Int) (tx : ByteArray) (v : VV) (nm : List ByteArray) (a b c d : List Tr) (na sa pa ba ea : Option Addr) (nc sc pc bc ec : Nat) (deep lf : Int) (w : World) (IHC : ∀ s ∈ c, FSt R B bf s) (IHD : ∀ s ∈ d, FSt R B bf s)
   (hsn : SlR R (.slice na nm.length nc) (nm.map .string)) (hzn : ∀ s ∈ nm, s.size ≤ maxLen) (hxa : ExL R a (.slice sa a.length sc)) (hpb : PaL R b (.slice pa b.length pc)) (hsc : StL R c (.slice ba c.length bc)) (hsd : StL R d (.slice ea d.length ec)) (htx : tx.size ≤ maxLen) (ho : Old R B w) (hB : B ≤ w.heap.size) (hbf : B ≤ bf) (hb : Blk w bf 37 [.int .i64 lf]) (h0 : 0 ≤ lf) (h300 : lf ≤ 300) (hd : 0 ≤ deep) (hd2 : deep ≤ 24) :
   Calls Tryz.prog 15 #[.pointer (some ⟨bf, 0, none⟩), .agg #[.int .i64 2, .int .i64 op, .string tx, .slice na nm.length nc, .slice sa a.length sc, .slice pa b.length pc, .slice ba c.length bc, .slice ea d.length ec], .int .i64 deep] w (FPost bf lf w (fun n => OkS (.mk 2 op tx v nm a b c d) ∧ (ctS (.mk 2 op tx v nm a b c d) : Int) ≤ n + 1)) := by
 obtain ⟨W0, hW0⟩ : ∃ W0, W0 = w.alloc (.cells #[.int .i64 2, .int .i64 op, .string tx, .slice na nm.length nc, .slice sa a.length sc, .slice pa b.length pc, .slice ba c.length bc, .slice ea d.length ec] 42) := ⟨_, rfl⟩
 have hu0 : Up (some bf) w W0 := by rw [hW0]; exact (Up.refl (some bf) w).alloc _
 have E0 : Blk W0 w.heap.size 42 [.int .i64 2, .int .i64 op, .string tx, .slice na nm.length nc, .slice sa a.length sc, .slice pa b.length pc, .slice ba c.length bc, .slice ea d.length ec] := by rw [hW0]; exact Blk.new w _ _
 have hbl := hb.lt
 have hK0 : Blk W0 bf 37 [.int .i64 lf] := by rw [hW0]; exact hb.alloc _
 have hW0s : W0.heap.size = w.heap.size + 1 := by rw [hW0]; simp
 have hO0 : Old R B W0 := ho.up hu0 hbf hB
 have hne : w.heap.size ≠ bf := by omega
 have KK : Hid (∀ W, Calls Tryz.prog 19 #[.int .i64 2] W (fun e w' => e = .returned (.int .i64 2) ∧ W = w')) := Li (fun W => by
   have h := treeParts_any 2 W
   have e : tkP 2 = 2 := by decide
   rw [e] at h
   exact h)
 have hml : a.length ≤ 9223372036854775807 ∧ b.length ≤ 9223372036854775807 ∧ c.length ≤ 9223372036854775807 ∧ d.length ≤ 9223372036854775807 ∧ nm.length ≤ 9223372036854775807 := by
   obtain ⟨_, _, _, h1, h2, _⟩ := hxa.form
   obtain ⟨_, _, _, h3, h4, _⟩ := hpb.form
   obtain ⟨_, _, _, h5, h6, _⟩ := hsc.form
   obtain ⟨_, _, _, h7, h8, _⟩ := hsd.form
   obtain ⟨_, _, _, h9, h10, _⟩ := hsn
   simp only [List.length_map] at h9
   unfold maxLen at *
   omega
 obtain ⟨ml1, ml2, ml3, ml4, ml5⟩ := hml
 have HC := Li (all_of (l := a) (fun x _ => expr_any R B bf x) sa sc (deep + 1) lf W0 hxa hO0 (by omega) hbf hK0 h0 h300 (by omega) (by omega))
 have HU0 := Li hu0; have HK0 := Li hK0; have HE0 := Li E0; have HO := Li ho
 have HIC := Li IHC; have HID := Li IHD; have HPB := Li hpb; have HTX := Li htx; have HSC := Li hsc; have HSD := Li hsd; have HSN := Li hsn; have HZN := Li hzn
 clear hu0 E0 hK0 hO0 hb ho IHC IHD hxa hpb htx hsc hsd hsn hzn
 subst hW0
 by_cases hn : a.length ≠ 2
 · have FIN : Hid ((FPost bf lf w (fun n => OkS (.mk 2 op tx v nm a b c d) ∧ (ctS (.mk 2 op tx v nm a b c d) : Int) ≤ n + 1) (.returned (.bool false)) (w.alloc (.cells #[.int .i64 2, .int .i64 op, .string tx, .slice na nm.length nc, .slice sa a.length sc, .slice pa b.length pc, .slice ba c.length bc, .slice ea d.length ec] 42)))) := Li ⟨false, lf, rfl, HK0.out, HU0.out, by omega, by omega, fun h => by simp at h⟩
   have hn1 : ((a.length : Int) != 2) = true := by rw [bne_iff_ne]; omega
   clear HK0 HU0 HE0 HC hn
   go_enter Tryz.func15, Tryz.ntmps15
   go_wp2_with (go_at_call 19; refine (KK.out _).mono ?_; rintro e w' ⟨rfl, rfl⟩)
   go_ret
   exact FIN.out
 have HN : Hid (a.length = 2) := Li (by omega)
 have hn1 : ((a.length : Int) != 2) = false := by rw [bne_eq_false_iff_eq]; omega
 clear hn
 go_enter Tryz.func15, Tryz.ntmps15
 go_wp2_with (go_at_call 19; refine (KK.out _).mono ?_; rintro e w' ⟨rfl, rfl⟩)
 clear KK hn1
 refine HC.out.mono ?_
 rintro e w1 ⟨y, l1, rfl, hb1, hu1, hl11, hl12, hok1⟩
 have HK1 := Li hb1
 have HU1 := Li (HU0.out.trans hu1)
 have hE1 := HE0.out.up hu1 (by simp only [ne_eq, Option.some.injEq]; exact hne)
 have f0 := hE1.cell 0 (by simp)
 have f1 := hE1.cell 1 (by simp)
 have f2 := hE1.cell 2 (by simp)
 have f3 := hE1.cell 3 (by simp)
 have f4 := hE1.cell 4 (by simp)
 have f5 := hE1.cell 5 (by simp)
 have f6 := hE1.cell 6 (by simp)
 have f7 := hE1.cell 7 (by simp)
 have HE1 := Li hE1
 have hs1 : w.heap.size < w1.heap.size := hE1.lt
 have HO1 := Li (HO.out.up HU1.out hbf hB)
 have hw1 : B ≤ w1.heap.size := Nat.le_trans hB HU1.out.size
 have FINF : Hid ((FPost bf lf w (fun n => OkS (.mk 2 op tx v nm a b c d) ∧ (ctS (.mk 2 op tx v nm a b c d) : Int) ≤ n + 1) (.returned (.bool false)) w1)) := Li ⟨false, l1, rfl, HK1.out, HU1.out, hl11, by omega, fun h => by simp at h⟩
 clear hE1 hb1 hu1 HE0 HK0 HU0 HC
 cases y with
 | false =>
   clear HK1 HU1 hok1 HE1
   go_wp2_with fail
   go_ret
   exact FINF.out
 | true =>
 obtain ⟨h01, hP1, hC1⟩ := hok1 rfl
 have HP1 := Li hP1
 clear hok1 hP1
 by_cases hq : 0 < c.length
 · have hz : decide (0 < c.length) = true := decide_eq_true hq
   clear HK1 HU1 HE1
   go_wp2_with fail
   go_ret
   exact FINF.out
 obtain rfl : c = [] := List.length_eq_zero_iff.1 (by omega)
 simp only [List.length_nil] at f6
 clear hq
 by_cases hq : 0 < d.length
 · have hz : decide (0 < d.length) = true := decide_eq_true hq
   clear HK1 HU1 HE1
   go_wp2_with fail
   go_ret
   exact FINF.out
 obtain rfl : d = [] := List.length_eq_zero_iff.1 (by omega)
 simp only [List.length_nil] at f7
 clear hq
 by_cases hq : 0 < b.length
 · have hz : decide (0 < b.length) = true := decide_eq_true hq
   clear HK1 HU1 HE1
   go_wp2_with fail
   go_ret
   exact FINF.out
 obtain rfl : b = [] := List.length_eq_zero_iff.1 (by omega)
 simp only [List.length_nil] at f5
 clear hq
 by_cases hq : 0 < nm.length
 · have hz : decide (0 < nm.length) = true := decide_eq_true hq
   clear HK1 HU1 HE1
   go_wp2_with fail
   go_ret
   exact FINF.out
 obtain rfl : nm = [] := List.length_eq_zero_iff.1 (by omega)
 simp only [List.length_nil] at f3
 clear hq
 by_cases hop : ¬ (0 ≤ op ∧ op ≤ 10)
 · clear HK1 HU1 HE1
   by_cases o1 : 0 ≤ op
   · have o2 : ¬ op ≤ 10 := by omega
     have o3 : decide (10 < op) = true := decide_eq_true (by omega)
     have o4 : decide (op < 0) = false := decide_eq_false (by omega)
     clear hop
     go_wp2_with fail
     go_ret
     exact FINF.out
   · have o3 : decide (op < 0) = true := decide_eq_true (by omega)
     clear hop
     go_wp2_with fail
     go_ret
     exact FINF.out
 have o1 : 0 ≤ op := by omega
 have o2 : op ≤ 10 := by omega
 have o3 : decide (10 < op) = false := decide_eq_false (by omega)
 have o4 : decide (op < 0) = false := decide_eq_false (by omega)
 clear hop
 by_cases htx : tx.toList.isEmpty = false
 · clear HK1 HU1 HE1
   go_wp2_with fail
   go_ret
   exact FINF.out
 have htx1 : tx.toList.isEmpty = true := by simpa using htx
 clear htx
 have HB := Li (stmts_of (l := ([] : List Tr)) (by intro s hs; simp at hs) ba bc (deep + 1) l1 w1 HSC.out HO1.out hw1 hbf HK1.out h01 (by omega) (by omega) (by omega))
 simp only [List.length_nil] at HB
 go_wp2_with fail
 with_reducible refine HB.out.mono ?_
 rintro e w2 ⟨y, l2, rfl, hb2, hu2, hl21, hl22, hok2⟩
 have hE2 := HE1.out.up hu2 (by simp only [ne_eq, Option.some.injEq]; exact hne)
 have g7 := hE2.cell 7 (by simp)
 simp only [List.length_nil] at g7
 have HU2 := Li (HU1.out.trans hu2)
 have HO2 := Li (HO.out.up HU2.out hbf hB)
 have hw2 : B ≤ w2.heap.size := Nat.le_trans hB HU2.out.size
 have hs2 : w.heap.size < w2.heap.size := hE2.lt
 clear hE2 hu2 HB
 cases y with
 | false =>
   have FIN : Hid ((FPost bf lf w (fun n => OkS (.mk 2 op tx v ([] : List ByteArray) a ([] : List Tr) ([] : List Tr) ([] : List Tr)) ∧ (ctS (.mk 2 op tx v ([] : List ByteArray) a ([] : List Tr) ([] : List Tr) ([] : List Tr)) : Int) ≤ n + 1) (.returned (.bool false)) w2)) := Li ⟨false, l2, rfl, hb2, HU2.out, hl21, by omega, fun h => by simp at h⟩
   clear hb2 hok2
   go_wp2_with fail
   go_ret
   exact FIN.out
 | true =>
 obtain ⟨h02, hP2, hC2⟩ := hok2 rfl
 have HP2 := Li hP2
 have HD := Li (stmts_of (l := ([] : List Tr)) (by intro s hs; simp at hs) ea ec (deep + 1) l2 w2 HSD.out HO2.out hw2 hbf hb2 h02 (by omega) (by omega) (by omega))
 simp only [List.length_nil] at HD
 clear hok2 hP2
 go_wp2_with fail
 with_reducible refine HD.out.mono ?_
 rintro e w3 ⟨y, l3, rfl, hb3, hu3, hl31, hl32, hok3⟩
 have FIN : Hid ((FPost bf lf w (fun n => OkS (.mk 2 op tx v ([] : List ByteArray) a ([] : List Tr) ([] : List Tr) ([] : List Tr)) ∧ (ctS (.mk 2 op tx v ([] : List ByteArray) a ([] : List Tr) ([] : List Tr) ([] : List Tr)) : Int) ≤ n + 1) (.returned (.bool y)) w3)) := Li ⟨y, l3, rfl, hb3, HU2.out.trans hu3, hl31, by omega, fun h => by
   obtain ⟨h03, hP3, hC3⟩ := hok3 h
   refine ⟨h03, ?_, ?_⟩
   · obtain ⟨x, y, e⟩ := len2 HN.out; rw [e]; have hx := HP1.out x (by rw [e]; simp); have hy := HP1.out y (by rw [e]; simp); exact .aug _ _ _ _ _ _ o1 o2 hx hy
   · rw [ctS_mk]; simp only [ctEs_nil, ctPs_nil, ctSs_nil] at *; omega⟩
 clear hb3 hu3 hok3 HD
 go_wp2_with fail
 go_ret
 exact FIN.out
set_option maxHeartbeats 6400000 in
theorem stmt_k4 {R : Nat → Nat → Option Value} {B bf : Nat} (op : Int) (tx : ByteArray) (v : VV) (nm : List ByteArray) (a b c d : List Tr) (na sa pa ba ea : Option Addr) (nc sc pc bc ec : Nat) (deep lf : Int) (w : World) (IHC : ∀ s ∈ c, FSt R B bf s) (IHD : ∀ s ∈ d, FSt R B bf s)
   (hsn : SlR R (.slice na nm.length nc) (nm.map .string)) (hzn : ∀ s ∈ nm, s.size ≤ maxLen) (hxa : ExL R a (.slice sa a.length sc)) (hpb : PaL R b (.slice pa b.length pc)) (hsc : StL R c (.slice ba c.length bc)) (hsd : StL R d (.slice ea d.length ec)) (htx : tx.size ≤ maxLen) (ho : Old R B w) (hB : B ≤ w.heap.size) (hbf : B ≤ bf) (hb : Blk w bf 37 [.int .i64 lf]) (h0 : 0 ≤ lf) (h300 : lf ≤ 300) (hd : 0 ≤ deep) (hd2 : deep ≤ 24) :
   Calls Tryz.prog 15 #[.pointer (some ⟨bf, 0, none⟩), .agg #[.int .i64 4, .int .i64 op, .string tx, .slice na nm.length nc, .slice sa a.length sc, .slice pa b.length pc, .slice ba c.length bc, .slice ea d.length ec], .int .i64 deep] w (FPost bf lf w (fun n => OkS (.mk 4 op tx v nm a b c d) ∧ (ctS (.mk 4 op tx v nm a b c d) : Int) ≤ n + 1)) := by
 obtain ⟨W0, hW0⟩ : ∃ W0, W0 = w.alloc (.cells #[.int .i64 4, .int .i64 op, .string tx, .slice na nm.length nc, .slice sa a.length sc, .slice pa b.length pc, .slice ba c.length bc, .slice ea d.length ec] 42) := ⟨_, rfl⟩
 have hu0 : Up (some bf) w W0 := by rw [hW0]; exact (Up.refl (some bf) w).alloc _
 have E0 : Blk W0 w.heap.size 42 [.int .i64 4, .int .i64 op, .string tx, .slice na nm.length nc, .slice sa a.length sc, .slice pa b.length pc, .slice ba c.length bc, .slice ea d.length ec] := by rw [hW0]; exact Blk.new w _ _
 have hbl := hb.lt
 have hK0 : Blk W0 bf 37 [.int .i64 lf] := by rw [hW0]; exact hb.alloc _
 have hW0s : W0.heap.size = w.heap.size + 1 := by rw [hW0]; simp
 have hO0 : Old R B W0 := ho.up hu0 hbf hB
 have hne : w.heap.size ≠ bf := by omega
 have KK : Hid (∀ W, Calls Tryz.prog 19 #[.int .i64 4] W (fun e w' => e = .returned (.int .i64 1) ∧ W = w')) := Li (fun W => by
   have h := treeParts_any 4 W
   have e : tkP 4 = 1 := by decide
   rw [e] at h
   exact h)
 have hml : a.length ≤ 9223372036854775807 ∧ b.length ≤ 9223372036854775807 ∧ c.length ≤ 9223372036854775807 ∧ d.length ≤ 9223372036854775807 ∧ nm.length ≤ 9223372036854775807 := by
   obtain ⟨_, _, _, h1, h2, _⟩ := hxa.form
   obtain ⟨_, _, _, h3, h4, _⟩ := hpb.form
   obtain ⟨_, _, _, h5, h6, _⟩ := hsc.form
   obtain ⟨_, _, _, h7, h8, _⟩ := hsd.form
   obtain ⟨_, _, _, h9, h10, _⟩ := hsn
   simp only [List.length_map] at h9
   unfold maxLen at *
   omega
 obtain ⟨ml1, ml2, ml3, ml4, ml5⟩ := hml
 have HC := Li (all_of (l := a) (fun x _ => expr_any R B bf x) sa sc (deep + 1) lf W0 hxa hO0 (by omega) hbf hK0 h0 h300 (by omega) (by omega))
 have HU0 := Li hu0; have HK0 := Li hK0; have HE0 := Li E0; have HO := Li ho
 have HIC := Li IHC; have HID := Li IHD; have HPB := Li hpb; have HTX := Li htx; have HSC := Li hsc; have HSD := Li hsd; have HSN := Li hsn; have HZN := Li hzn
 clear hu0 E0 hK0 hO0 hb ho IHC IHD hxa hpb htx hsc hsd hsn hzn
 subst hW0
 by_cases hn : a.length ≠ 1
 · have FIN : Hid ((FPost bf lf w (fun n => OkS (.mk 4 op tx v nm a b c d) ∧ (ctS (.mk 4 op tx v nm a b c d) : Int) ≤ n + 1) (.returned (.bool false)) (w.alloc (.cells #[.int .i64 4, .int .i64 op, .string tx, .slice na nm.length nc, .slice sa a.length sc, .slice pa b.length pc, .slice ba c.length bc, .slice ea d.length ec] 42)))) := Li ⟨false, lf, rfl, HK0.out, HU0.out, by omega, by omega, fun h => by simp at h⟩
   have hn1 : ((a.length : Int) != 1) = true := by rw [bne_iff_ne]; omega
   clear HK0 HU0 HE0 HC hn
   go_enter Tryz.func15, Tryz.ntmps15
   go_wp2_with (go_at_call 19; refine (KK.out _).mono ?_; rintro e w' ⟨rfl, rfl⟩)
   go_ret
   exact FIN.out
 have HN : Hid (a.length = 1) := Li (by omega)
 have hn1 : ((a.length : Int) != 1) = false := by rw [bne_eq_false_iff_eq]; omega
 clear hn
 go_enter Tryz.func15, Tryz.ntmps15
 go_wp2_with (go_at_call 19; refine (KK.out _).mono ?_; rintro e w' ⟨rfl, rfl⟩)
 clear KK hn1
 refine HC.out.mono ?_
 rintro e w1 ⟨y, l1, rfl, hb1, hu1, hl11, hl12, hok1⟩
 have HK1 := Li hb1
 have HU1 := Li (HU0.out.trans hu1)
 have hE1 := HE0.out.up hu1 (by simp only [ne_eq, Option.some.injEq]; exact hne)
 have f0 := hE1.cell 0 (by simp)
 have f1 := hE1.cell 1 (by simp)
 have f2 := hE1.cell 2 (by simp)
 have f3 := hE1.cell 3 (by simp)
 have f4 := hE1.cell 4 (by simp)
 have f5 := hE1.cell 5 (by simp)
 have f6 := hE1.cell 6 (by simp)
 have f7 := hE1.cell 7 (by simp)
 have HE1 := Li hE1
 have hs1 : w.heap.size < w1.heap.size := hE1.lt
 have HO1 := Li (HO.out.up HU1.out hbf hB)
 have hw1 : B ≤ w1.heap.size := Nat.le_trans hB HU1.out.size
 have FINF : Hid ((FPost bf lf w (fun n => OkS (.mk 4 op tx v nm a b c d) ∧ (ctS (.mk 4 op tx v nm a b c d) : Int) ≤ n + 1) (.returned (.bool false)) w1)) := Li ⟨false, l1, rfl, HK1.out, HU1.out, hl11, by omega, fun h => by simp at h⟩
 clear hE1 hb1 hu1 HE0 HK0 HU0 HC
 cases y with
 | false =>
   clear HK1 HU1 hok1 HE1
   go_wp2_with fail
   go_ret
   exact FINF.out
 | true =>
 obtain ⟨h01, hP1, hC1⟩ := hok1 rfl
 have HP1 := Li hP1
 clear hok1 hP1
 by_cases hq : ¬ 0 < c.length
 · have hz : decide (0 < c.length) = false := decide_eq_false hq
   clear HK1 HU1 HE1
   go_wp2_with fail
   go_ret
   exact FINF.out
 have hqc : 0 < c.length := by omega
 have hzc : decide (0 < c.length) = true := decide_eq_true hqc
 clear hq
 by_cases hq : 0 < b.length
 · have hz : decide (0 < b.length) = true := decide_eq_true hq
   clear HK1 HU1 HE1
   go_wp2_with fail
   go_ret
   exact FINF.out
 obtain rfl : b = [] := List.length_eq_zero_iff.1 (by omega)
 simp only [List.length_nil] at f5
 clear hq
 by_cases hq : 0 < nm.length
 · have hz : decide (0 < nm.length) = true := decide_eq_true hq
   clear HK1 HU1 HE1
   go_wp2_with fail
   go_ret
   exact FINF.out
 obtain rfl : nm = [] := List.length_eq_zero_iff.1 (by omega)
 simp only [List.length_nil] at f3
 clear hq
 by_cases hop : ¬ op = 0
 · have hop1 : (op != 0) = true := by rw [bne_iff_ne]; exact hop
   clear HK1 HU1 HE1
   go_wp2_with fail
   go_ret
   exact FINF.out
 obtain rfl : op = 0 := by omega
 clear hop
 by_cases htx : tx.toList.isEmpty = false
 · clear HK1 HU1 HE1
   go_wp2_with fail
   go_ret
   exact FINF.out
 have htx1 : tx.toList.isEmpty = true := by simpa using htx
 clear htx
 have HB := Li (stmts_of (l := c) (by exact HIC.out) ba bc (deep + 1) l1 w1 HSC.out HO1.out hw1 hbf HK1.out h01 (by omega) (by omega) (by omega))
 go_wp2_with fail
 with_reducible refine HB.out.mono ?_
 rintro e w2 ⟨y, l2, rfl, hb2, hu2, hl21, hl22, hok2⟩
 have hE2 := HE1.out.up hu2 (by simp only [ne_eq, Option.some.injEq]; exact hne)
 have g7 := hE2.cell 7 (by simp)
 have HU2 := Li (HU1.out.trans hu2)
 have HO2 := Li (HO.out.up HU2.out hbf hB)
 have hw2 : B ≤ w2.heap.size := Nat.le_trans hB HU2.out.size
 have hs2 : w.heap.size < w2.heap.size := hE2.lt
 clear hE2 hu2 HB
 cases y with
 | false =>
   have FIN : Hid ((FPost bf lf w (fun n => OkS (.mk 4 0 tx v ([] : List ByteArray) a ([] : List Tr) c d) ∧ (ctS (.mk 4 0 tx v ([] : List ByteArray) a ([] : List Tr) c d) : Int) ≤ n + 1) (.returned (.bool false)) w2)) := Li ⟨false, l2, rfl, hb2, HU2.out, hl21, by omega, fun h => by simp at h⟩
   clear hb2 hok2
   go_wp2_with fail
   go_ret
   exact FIN.out
 | true =>
 obtain ⟨h02, hP2, hC2⟩ := hok2 rfl
 have HP2 := Li hP2
 have HD := Li (stmts_of (l := d) (by exact HID.out) ea ec (deep + 1) l2 w2 HSD.out HO2.out hw2 hbf hb2 h02 (by omega) (by omega) (by omega))
 clear hok2 hP2
 go_wp2_with fail
 with_reducible refine HD.out.mono ?_
 rintro e w3 ⟨y, l3, rfl, hb3, hu3, hl31, hl32, hok3⟩
 have FIN : Hid ((FPost bf lf w (fun n => OkS (.mk 4 0 tx v ([] : List ByteArray) a ([] : List Tr) c d) ∧ (ctS (.mk 4 0 tx v ([] : List ByteArray) a ([] : List Tr) c d) : Int) ≤ n + 1) (.returned (.bool y)) w3)) := Li ⟨y, l3, rfl, hb3, HU2.out.trans hu3, hl31, by omega, fun h => by
   obtain ⟨h03, hP3, hC3⟩ := hok3 h
   refine ⟨h03, ?_, ?_⟩
   · obtain ⟨x, e⟩ := len1 HN.out; rw [e]; have hx := HP1.out x (by rw [e]; simp); exact .cond _ _ _ _ _ _ _ hx (by intro h; rw [h] at hqc; simp at hqc) HP2.out hP3
   · rw [ctS_mk]; simp only [ctEs_nil, ctPs_nil, ctSs_nil] at *; omega⟩
 clear hb3 hu3 hok3 HD
 go_wp2_with fail
 go_ret
 exact FIN.out
set_option maxHeartbeats 6400000 in
theorem stmt_k5 {R : Nat → Nat → Option Value} {B bf : Nat} (op : Int) (tx : ByteArray) (v : VV) (nm : List ByteArray) (a b c d : List Tr) (na sa pa ba ea : Option Addr) (nc sc pc bc ec : Nat) (deep lf : Int) (w : World) (IHC : ∀ s ∈ c, FSt R B bf s) (IHD : ∀ s ∈ d, FSt R B bf s)
   (hsn : SlR R (.slice na nm.length nc) (nm.map .string)) (hzn : ∀ s ∈ nm, s.size ≤ maxLen) (hxa : ExL R a (.slice sa a.length sc)) (hpb : PaL R b (.slice pa b.length pc)) (hsc : StL R c (.slice ba c.length bc)) (hsd : StL R d (.slice ea d.length ec)) (htx : tx.size ≤ maxLen) (ho : Old R B w) (hB : B ≤ w.heap.size) (hbf : B ≤ bf) (hb : Blk w bf 37 [.int .i64 lf]) (h0 : 0 ≤ lf) (h300 : lf ≤ 300) (hd : 0 ≤ deep) (hd2 : deep ≤ 24) :
   Calls Tryz.prog 15 #[.pointer (some ⟨bf, 0, none⟩), .agg #[.int .i64 5, .int .i64 op, .string tx, .slice na nm.length nc, .slice sa a.length sc, .slice pa b.length pc, .slice ba c.length bc, .slice ea d.length ec], .int .i64 deep] w (FPost bf lf w (fun n => OkS (.mk 5 op tx v nm a b c d) ∧ (ctS (.mk 5 op tx v nm a b c d) : Int) ≤ n + 1)) := by
 obtain ⟨W0, hW0⟩ : ∃ W0, W0 = w.alloc (.cells #[.int .i64 5, .int .i64 op, .string tx, .slice na nm.length nc, .slice sa a.length sc, .slice pa b.length pc, .slice ba c.length bc, .slice ea d.length ec] 42) := ⟨_, rfl⟩
 have hu0 : Up (some bf) w W0 := by rw [hW0]; exact (Up.refl (some bf) w).alloc _
 have E0 : Blk W0 w.heap.size 42 [.int .i64 5, .int .i64 op, .string tx, .slice na nm.length nc, .slice sa a.length sc, .slice pa b.length pc, .slice ba c.length bc, .slice ea d.length ec] := by rw [hW0]; exact Blk.new w _ _
 have hbl := hb.lt
 have hK0 : Blk W0 bf 37 [.int .i64 lf] := by rw [hW0]; exact hb.alloc _
 have hW0s : W0.heap.size = w.heap.size + 1 := by rw [hW0]; simp
 have hO0 : Old R B W0 := ho.up hu0 hbf hB
 have hne : w.heap.size ≠ bf := by omega
 have KK : Hid (∀ W, Calls Tryz.prog 19 #[.int .i64 5] W (fun e w' => e = .returned (.int .i64 2) ∧ W = w')) := Li (fun W => by
   have h := treeParts_any 5 W
   have e : tkP 5 = 2 := by decide
   rw [e] at h
   exact h)
 have hml : a.length ≤ 9223372036854775807 ∧ b.length ≤ 9223372036854775807 ∧ c.length ≤ 9223372036854775807 ∧ d.length ≤ 9223372036854775807 ∧ nm.length ≤ 9223372036854775807 := by
   obtain ⟨_, _, _, h1, h2, _⟩ := hxa.form
   obtain ⟨_, _, _, h3, h4, _⟩ := hpb.form
   obtain ⟨_, _, _, h5, h6, _⟩ := hsc.form
   obtain ⟨_, _, _, h7, h8, _⟩ := hsd.form
   obtain ⟨_, _, _, h9, h10, _⟩ := hsn
   simp only [List.length_map] at h9
   unfold maxLen at *
   omega
 obtain ⟨ml1, ml2, ml3, ml4, ml5⟩ := hml
 have HC := Li (all_of (l := a) (fun x _ => expr_any R B bf x) sa sc (deep + 1) lf W0 hxa hO0 (by omega) hbf hK0 h0 h300 (by omega) (by omega))
 have HU0 := Li hu0; have HK0 := Li hK0; have HE0 := Li E0; have HO := Li ho
 have HIC := Li IHC; have HID := Li IHD; have HPB := Li hpb; have HTX := Li htx; have HSC := Li hsc; have HSD := Li hsd; have HSN := Li hsn; have HZN := Li hzn
 clear hu0 E0 hK0 hO0 hb ho IHC IHD hxa hpb htx hsc hsd hsn hzn
 subst hW0
 by_cases hn : a.length ≠ 2
 · have FIN : Hid ((FPost bf lf w (fun n => OkS (.mk 5 op tx v nm a b c d) ∧ (ctS (.mk 5 op tx v nm a b c d) : Int) ≤ n + 1) (.returned (.bool false)) (w.alloc (.cells #[.int .i64 5, .int .i64 op, .string tx, .slice na nm.length nc, .slice sa a.length sc, .slice pa b.length pc, .slice ba c.length bc, .slice ea d.length ec] 42)))) := Li ⟨false, lf, rfl, HK0.out, HU0.out, by omega, by omega, fun h => by simp at h⟩
   have hn1 : ((a.length : Int) != 2) = true := by rw [bne_iff_ne]; omega
   clear HK0 HU0 HE0 HC hn
   go_enter Tryz.func15, Tryz.ntmps15
   go_wp2_with (go_at_call 19; refine (KK.out _).mono ?_; rintro e w' ⟨rfl, rfl⟩)
   go_ret
   exact FIN.out
 have HN : Hid (a.length = 2) := Li (by omega)
 have hn1 : ((a.length : Int) != 2) = false := by rw [bne_eq_false_iff_eq]; omega
 clear hn
 go_enter Tryz.func15, Tryz.ntmps15
 go_wp2_with (go_at_call 19; refine (KK.out _).mono ?_; rintro e w' ⟨rfl, rfl⟩)
 clear KK hn1
 refine HC.out.mono ?_
 rintro e w1 ⟨y, l1, rfl, hb1, hu1, hl11, hl12, hok1⟩
 have HK1 := Li hb1
 have HU1 := Li (HU0.out.trans hu1)
 have hE1 := HE0.out.up hu1 (by simp only [ne_eq, Option.some.injEq]; exact hne)
 have f0 := hE1.cell 0 (by simp)
 have f1 := hE1.cell 1 (by simp)
 have f2 := hE1.cell 2 (by simp)
 have f3 := hE1.cell 3 (by simp)
 have f4 := hE1.cell 4 (by simp)
 have f5 := hE1.cell 5 (by simp)
 have f6 := hE1.cell 6 (by simp)
 have f7 := hE1.cell 7 (by simp)
 have HE1 := Li hE1
 have hs1 : w.heap.size < w1.heap.size := hE1.lt
 have HO1 := Li (HO.out.up HU1.out hbf hB)
 have hw1 : B ≤ w1.heap.size := Nat.le_trans hB HU1.out.size
 have FINF : Hid ((FPost bf lf w (fun n => OkS (.mk 5 op tx v nm a b c d) ∧ (ctS (.mk 5 op tx v nm a b c d) : Int) ≤ n + 1) (.returned (.bool false)) w1)) := Li ⟨false, l1, rfl, HK1.out, HU1.out, hl11, by omega, fun h => by simp at h⟩
 clear hE1 hb1 hu1 HE0 HK0 HU0 HC
 cases y with
 | false =>
   clear HK1 HU1 hok1 HE1
   go_wp2_with fail
   go_ret
   exact FINF.out
 | true =>
 obtain ⟨h01, hP1, hC1⟩ := hok1 rfl
 have HP1 := Li hP1
 clear hok1 hP1
 by_cases hq : ¬ 0 < c.length
 · have hz : decide (0 < c.length) = false := decide_eq_false hq
   clear HK1 HU1 HE1
   go_wp2_with fail
   go_ret
   exact FINF.out
 have hqc : 0 < c.length := by omega
 have hzc : decide (0 < c.length) = true := decide_eq_true hqc
 clear hq
 by_cases hq : 0 < d.length
 · have hz : decide (0 < d.length) = true := decide_eq_true hq
   clear HK1 HU1 HE1
   go_wp2_with fail
   go_ret
   exact FINF.out
 obtain rfl : d = [] := List.length_eq_zero_iff.1 (by omega)
 simp only [List.length_nil] at f7
 clear hq
 by_cases hq : 0 < b.length
 · have hz : decide (0 < b.length) = true := decide_eq_true hq
   clear HK1 HU1 HE1
   go_wp2_with fail
   go_ret
   exact FINF.out
 obtain rfl : b = [] := List.length_eq_zero_iff.1 (by omega)
 simp only [List.length_nil] at f5
 clear hq
 by_cases hq : 0 < nm.length
 · have hz : decide (0 < nm.length) = true := decide_eq_true hq
   clear HK1 HU1 HE1
   go_wp2_with fail
   go_ret
   exact FINF.out
 obtain rfl : nm = [] := List.length_eq_zero_iff.1 (by omega)
 simp only [List.length_nil] at f3
 clear hq
 by_cases hop : ¬ op = 0
 · have hop1 : (op != 0) = true := by rw [bne_iff_ne]; exact hop
   clear HK1 HU1 HE1
   go_wp2_with fail
   go_ret
   exact FINF.out
 obtain rfl : op = 0 := by omega
 clear hop
 by_cases htx : tx.toList.isEmpty = false
 · clear HK1 HU1 HE1
   go_wp2_with fail
   go_ret
   exact FINF.out
 have htx1 : tx.toList.isEmpty = true := by simpa using htx
 clear htx
 have HB := Li (stmts_of (l := c) (by exact HIC.out) ba bc (deep + 1) l1 w1 HSC.out HO1.out hw1 hbf HK1.out h01 (by omega) (by omega) (by omega))
 go_wp2_with fail
 with_reducible refine HB.out.mono ?_
 rintro e w2 ⟨y, l2, rfl, hb2, hu2, hl21, hl22, hok2⟩
 have hE2 := HE1.out.up hu2 (by simp only [ne_eq, Option.some.injEq]; exact hne)
 have g7 := hE2.cell 7 (by simp)
 simp only [List.length_nil] at g7
 have HU2 := Li (HU1.out.trans hu2)
 have HO2 := Li (HO.out.up HU2.out hbf hB)
 have hw2 : B ≤ w2.heap.size := Nat.le_trans hB HU2.out.size
 have hs2 : w.heap.size < w2.heap.size := hE2.lt
 clear hE2 hu2 HB
 cases y with
 | false =>
   have FIN : Hid ((FPost bf lf w (fun n => OkS (.mk 5 0 tx v ([] : List ByteArray) a ([] : List Tr) c ([] : List Tr)) ∧ (ctS (.mk 5 0 tx v ([] : List ByteArray) a ([] : List Tr) c ([] : List Tr)) : Int) ≤ n + 1) (.returned (.bool false)) w2)) := Li ⟨false, l2, rfl, hb2, HU2.out, hl21, by omega, fun h => by simp at h⟩
   clear hb2 hok2
   go_wp2_with fail
   go_ret
   exact FIN.out
 | true =>
 obtain ⟨h02, hP2, hC2⟩ := hok2 rfl
 have HP2 := Li hP2
 have HD := Li (stmts_of (l := ([] : List Tr)) (by intro s hs; simp at hs) ea ec (deep + 1) l2 w2 HSD.out HO2.out hw2 hbf hb2 h02 (by omega) (by omega) (by omega))
 simp only [List.length_nil] at HD
 clear hok2 hP2
 go_wp2_with fail
 with_reducible refine HD.out.mono ?_
 rintro e w3 ⟨y, l3, rfl, hb3, hu3, hl31, hl32, hok3⟩
 have FIN : Hid ((FPost bf lf w (fun n => OkS (.mk 5 0 tx v ([] : List ByteArray) a ([] : List Tr) c ([] : List Tr)) ∧ (ctS (.mk 5 0 tx v ([] : List ByteArray) a ([] : List Tr) c ([] : List Tr)) : Int) ≤ n + 1) (.returned (.bool y)) w3)) := Li ⟨y, l3, rfl, hb3, HU2.out.trans hu3, hl31, by omega, fun h => by
   obtain ⟨h03, hP3, hC3⟩ := hok3 h
   refine ⟨h03, ?_, ?_⟩
   · obtain ⟨x, y, e⟩ := len2 HN.out; rw [e]; have hx := HP1.out x (by rw [e]; simp); have hy := HP1.out y (by rw [e]; simp); exact .each _ _ _ _ _ _ _ hx hy (by intro h; rw [h] at hqc; simp at hqc) HP2.out
   · rw [ctS_mk]; simp only [ctEs_nil, ctPs_nil, ctSs_nil] at *; omega⟩
 clear hb3 hu3 hok3 HD
 go_wp2_with fail
 go_ret
 exact FIN.out
set_option maxHeartbeats 6400000 in
theorem stmt_k6 {R : Nat → Nat → Option Value} {B bf : Nat} (op : Int) (tx : ByteArray) (v : VV) (nm : List ByteArray) (a b c d : List Tr) (na sa pa ba ea : Option Addr) (nc sc pc bc ec : Nat) (deep lf : Int) (w : World) (IHC : ∀ s ∈ c, FSt R B bf s) (IHD : ∀ s ∈ d, FSt R B bf s)
   (hsn : SlR R (.slice na nm.length nc) (nm.map .string)) (hzn : ∀ s ∈ nm, s.size ≤ maxLen) (hxa : ExL R a (.slice sa a.length sc)) (hpb : PaL R b (.slice pa b.length pc)) (hsc : StL R c (.slice ba c.length bc)) (hsd : StL R d (.slice ea d.length ec)) (htx : tx.size ≤ maxLen) (ho : Old R B w) (hB : B ≤ w.heap.size) (hbf : B ≤ bf) (hb : Blk w bf 37 [.int .i64 lf]) (h0 : 0 ≤ lf) (h300 : lf ≤ 300) (hd : 0 ≤ deep) (hd2 : deep ≤ 24) :
   Calls Tryz.prog 15 #[.pointer (some ⟨bf, 0, none⟩), .agg #[.int .i64 6, .int .i64 op, .string tx, .slice na nm.length nc, .slice sa a.length sc, .slice pa b.length pc, .slice ba c.length bc, .slice ea d.length ec], .int .i64 deep] w (FPost bf lf w (fun n => OkS (.mk 6 op tx v nm a b c d) ∧ (ctS (.mk 6 op tx v nm a b c d) : Int) ≤ n + 1)) := by
 obtain ⟨W0, hW0⟩ : ∃ W0, W0 = w.alloc (.cells #[.int .i64 6, .int .i64 op, .string tx, .slice na nm.length nc, .slice sa a.length sc, .slice pa b.length pc, .slice ba c.length bc, .slice ea d.length ec] 42) := ⟨_, rfl⟩
 have hu0 : Up (some bf) w W0 := by rw [hW0]; exact (Up.refl (some bf) w).alloc _
 have E0 : Blk W0 w.heap.size 42 [.int .i64 6, .int .i64 op, .string tx, .slice na nm.length nc, .slice sa a.length sc, .slice pa b.length pc, .slice ba c.length bc, .slice ea d.length ec] := by rw [hW0]; exact Blk.new w _ _
 have hbl := hb.lt
 have hK0 : Blk W0 bf 37 [.int .i64 lf] := by rw [hW0]; exact hb.alloc _
 have hW0s : W0.heap.size = w.heap.size + 1 := by rw [hW0]; simp
 have hO0 : Old R B W0 := ho.up hu0 hbf hB
 have hne : w.heap.size ≠ bf := by omega
 have KK : Hid (∀ W, Calls Tryz.prog 19 #[.int .i64 6] W (fun e w' => e = .returned (.int .i64 1) ∧ W = w')) := Li (fun W => by
   have h := treeParts_any 6 W
   have e : tkP 6 = 1 := by decide
   rw [e] at h
   exact h)
 have hml : a.length ≤ 9223372036854775807 ∧ b.length ≤ 9223372036854775807 ∧ c.length ≤ 9223372036854775807 ∧ d.length ≤ 9223372036854775807 ∧ nm.length ≤ 9223372036854775807 := by
   obtain ⟨_, _, _, h1, h2, _⟩ := hxa.form
   obtain ⟨_, _, _, h3, h4, _⟩ := hpb.form
   obtain ⟨_, _, _, h5, h6, _⟩ := hsc.form
   obtain ⟨_, _, _, h7, h8, _⟩ := hsd.form
   obtain ⟨_, _, _, h9, h10, _⟩ := hsn
   simp only [List.length_map] at h9
   unfold maxLen at *
   omega
 obtain ⟨ml1, ml2, ml3, ml4, ml5⟩ := hml
 have HC := Li (all_of (l := a) (fun x _ => expr_any R B bf x) sa sc (deep + 1) lf W0 hxa hO0 (by omega) hbf hK0 h0 h300 (by omega) (by omega))
 have HU0 := Li hu0; have HK0 := Li hK0; have HE0 := Li E0; have HO := Li ho
 have HIC := Li IHC; have HID := Li IHD; have HPB := Li hpb; have HTX := Li htx; have HSC := Li hsc; have HSD := Li hsd; have HSN := Li hsn; have HZN := Li hzn
 clear hu0 E0 hK0 hO0 hb ho IHC IHD hxa hpb htx hsc hsd hsn hzn
 subst hW0
 by_cases hn : a.length ≠ 1
 · have FIN : Hid ((FPost bf lf w (fun n => OkS (.mk 6 op tx v nm a b c d) ∧ (ctS (.mk 6 op tx v nm a b c d) : Int) ≤ n + 1) (.returned (.bool false)) (w.alloc (.cells #[.int .i64 6, .int .i64 op, .string tx, .slice na nm.length nc, .slice sa a.length sc, .slice pa b.length pc, .slice ba c.length bc, .slice ea d.length ec] 42)))) := Li ⟨false, lf, rfl, HK0.out, HU0.out, by omega, by omega, fun h => by simp at h⟩
   have hn1 : ((a.length : Int) != 1) = true := by rw [bne_iff_ne]; omega
   clear HK0 HU0 HE0 HC hn
   go_enter Tryz.func15, Tryz.ntmps15
   go_wp2_with (go_at_call 19; refine (KK.out _).mono ?_; rintro e w' ⟨rfl, rfl⟩)
   go_ret
   exact FIN.out
 have HN : Hid (a.length = 1) := Li (by omega)
 have hn1 : ((a.length : Int) != 1) = false := by rw [bne_eq_false_iff_eq]; omega
 clear hn
 go_enter Tryz.func15, Tryz.ntmps15
 go_wp2_with (go_at_call 19; refine (KK.out _).mono ?_; rintro e w' ⟨rfl, rfl⟩)
 clear KK hn1
 refine HC.out.mono ?_
 rintro e w1 ⟨y, l1, rfl, hb1, hu1, hl11, hl12, hok1⟩
 have HK1 := Li hb1
 have HU1 := Li (HU0.out.trans hu1)
 have hE1 := HE0.out.up hu1 (by simp only [ne_eq, Option.some.injEq]; exact hne)
 have f0 := hE1.cell 0 (by simp)
 have f1 := hE1.cell 1 (by simp)
 have f2 := hE1.cell 2 (by simp)
 have f3 := hE1.cell 3 (by simp)
 have f4 := hE1.cell 4 (by simp)
 have f5 := hE1.cell 5 (by simp)
 have f6 := hE1.cell 6 (by simp)
 have f7 := hE1.cell 7 (by simp)
 have HE1 := Li hE1
 have hs1 : w.heap.size < w1.heap.size := hE1.lt
 have HO1 := Li (HO.out.up HU1.out hbf hB)
 have hw1 : B ≤ w1.heap.size := Nat.le_trans hB HU1.out.size
 have FINF : Hid ((FPost bf lf w (fun n => OkS (.mk 6 op tx v nm a b c d) ∧ (ctS (.mk 6 op tx v nm a b c d) : Int) ≤ n + 1) (.returned (.bool false)) w1)) := Li ⟨false, l1, rfl, HK1.out, HU1.out, hl11, by omega, fun h => by simp at h⟩
 clear hE1 hb1 hu1 HE0 HK0 HU0 HC
 cases y with
 | false =>
   clear HK1 HU1 hok1 HE1
   go_wp2_with fail
   go_ret
   exact FINF.out
 | true =>
 obtain ⟨h01, hP1, hC1⟩ := hok1 rfl
 have HP1 := Li hP1
 clear hok1 hP1
 by_cases hq : ¬ 0 < c.length
 · have hz : decide (0 < c.length) = false := decide_eq_false hq
   clear HK1 HU1 HE1
   go_wp2_with fail
   go_ret
   exact FINF.out
 have hqc : 0 < c.length := by omega
 have hzc : decide (0 < c.length) = true := decide_eq_true hqc
 clear hq
 by_cases hq : 0 < d.length
 · have hz : decide (0 < d.length) = true := decide_eq_true hq
   clear HK1 HU1 HE1
   go_wp2_with fail
   go_ret
   exact FINF.out
 obtain rfl : d = [] := List.length_eq_zero_iff.1 (by omega)
 simp only [List.length_nil] at f7
 clear hq
 by_cases hq : 0 < b.length
 · have hz : decide (0 < b.length) = true := decide_eq_true hq
   clear HK1 HU1 HE1
   go_wp2_with fail
   go_ret
   exact FINF.out
 obtain rfl : b = [] := List.length_eq_zero_iff.1 (by omega)
 simp only [List.length_nil] at f5
 clear hq
 by_cases hq : 0 < nm.length
 · have hz : decide (0 < nm.length) = true := decide_eq_true hq
   clear HK1 HU1 HE1
   go_wp2_with fail
   go_ret
   exact FINF.out
 obtain rfl : nm = [] := List.length_eq_zero_iff.1 (by omega)
 simp only [List.length_nil] at f3
 clear hq
 by_cases hop : ¬ op = 0
 · have hop1 : (op != 0) = true := by rw [bne_iff_ne]; exact hop
   clear HK1 HU1 HE1
   go_wp2_with fail
   go_ret
   exact FINF.out
 obtain rfl : op = 0 := by omega
 clear hop
 by_cases htx : tx.toList.isEmpty = false
 · clear HK1 HU1 HE1
   go_wp2_with fail
   go_ret
   exact FINF.out
 have htx1 : tx.toList.isEmpty = true := by simpa using htx
 clear htx
 have HB := Li (stmts_of (l := c) (by exact HIC.out) ba bc (deep + 1) l1 w1 HSC.out HO1.out hw1 hbf HK1.out h01 (by omega) (by omega) (by omega))
 go_wp2_with fail
 with_reducible refine HB.out.mono ?_
 rintro e w2 ⟨y, l2, rfl, hb2, hu2, hl21, hl22, hok2⟩
 have hE2 := HE1.out.up hu2 (by simp only [ne_eq, Option.some.injEq]; exact hne)
 have g7 := hE2.cell 7 (by simp)
 simp only [List.length_nil] at g7
 have HU2 := Li (HU1.out.trans hu2)
 have HO2 := Li (HO.out.up HU2.out hbf hB)
 have hw2 : B ≤ w2.heap.size := Nat.le_trans hB HU2.out.size
 have hs2 : w.heap.size < w2.heap.size := hE2.lt
 clear hE2 hu2 HB
 cases y with
 | false =>
   have FIN : Hid ((FPost bf lf w (fun n => OkS (.mk 6 0 tx v ([] : List ByteArray) a ([] : List Tr) c ([] : List Tr)) ∧ (ctS (.mk 6 0 tx v ([] : List ByteArray) a ([] : List Tr) c ([] : List Tr)) : Int) ≤ n + 1) (.returned (.bool false)) w2)) := Li ⟨false, l2, rfl, hb2, HU2.out, hl21, by omega, fun h => by simp at h⟩
   clear hb2 hok2
   go_wp2_with fail
   go_ret
   exact FIN.out
 | true =>
 obtain ⟨h02, hP2, hC2⟩ := hok2 rfl
 have HP2 := Li hP2
 have HD := Li (stmts_of (l := ([] : List Tr)) (by intro s hs; simp at hs) ea ec (deep + 1) l2 w2 HSD.out HO2.out hw2 hbf hb2 h02 (by omega) (by omega) (by omega))
 simp only [List.length_nil] at HD
 clear hok2 hP2
 go_wp2_with fail
 with_reducible refine HD.out.mono ?_
 rintro e w3 ⟨y, l3, rfl, hb3, hu3, hl31, hl32, hok3⟩
 have FIN : Hid ((FPost bf lf w (fun n => OkS (.mk 6 0 tx v ([] : List ByteArray) a ([] : List Tr) c ([] : List Tr)) ∧ (ctS (.mk 6 0 tx v ([] : List ByteArray) a ([] : List Tr) c ([] : List Tr)) : Int) ≤ n + 1) (.returned (.bool y)) w3)) := Li ⟨y, l3, rfl, hb3, HU2.out.trans hu3, hl31, by omega, fun h => by
   obtain ⟨h03, hP3, hC3⟩ := hok3 h
   refine ⟨h03, ?_, ?_⟩
   · obtain ⟨x, e⟩ := len1 HN.out; rw [e]; have hx := HP1.out x (by rw [e]; simp); exact .whil _ _ _ _ _ _ hx (by intro h; rw [h] at hqc; simp at hqc) HP2.out
   · rw [ctS_mk]; simp only [ctEs_nil, ctPs_nil, ctSs_nil] at *; omega⟩
 clear hb3 hu3 hok3 HD
 go_wp2_with fail
 go_ret
 exact FIN.out
set_option maxHeartbeats 6400000 in
theorem stmt_k8 {R : Nat → Nat → Option Value} {B bf : Nat} (op : Int) (tx : ByteArray) (v : VV) (nm : List ByteArray) (a b c d : List Tr) (na sa pa ba ea : Option Addr) (nc sc pc bc ec : Nat) (deep lf : Int) (w : World) (IHC : ∀ s ∈ c, FSt R B bf s) (IHD : ∀ s ∈ d, FSt R B bf s)
   (hsn : SlR R (.slice na nm.length nc) (nm.map .string)) (hzn : ∀ s ∈ nm, s.size ≤ maxLen) (hxa : ExL R a (.slice sa a.length sc)) (hpb : PaL R b (.slice pa b.length pc)) (hsc : StL R c (.slice ba c.length bc)) (hsd : StL R d (.slice ea d.length ec)) (htx : tx.size ≤ maxLen) (ho : Old R B w) (hB : B ≤ w.heap.size) (hbf : B ≤ bf) (hb : Blk w bf 37 [.int .i64 lf]) (h0 : 0 ≤ lf) (h300 : lf ≤ 300) (hd : 0 ≤ deep) (hd2 : deep ≤ 24) :
   Calls Tryz.prog 15 #[.pointer (some ⟨bf, 0, none⟩), .agg #[.int .i64 8, .int .i64 op, .string tx, .slice na nm.length nc, .slice sa a.length sc, .slice pa b.length pc, .slice ba c.length bc, .slice ea d.length ec], .int .i64 deep] w (FPost bf lf w (fun n => OkS (.mk 8 op tx v nm a b c d) ∧ (ctS (.mk 8 op tx v nm a b c d) : Int) ≤ n + 1)) := by
 obtain ⟨W0, hW0⟩ : ∃ W0, W0 = w.alloc (.cells #[.int .i64 8, .int .i64 op, .string tx, .slice na nm.length nc, .slice sa a.length sc, .slice pa b.length pc, .slice ba c.length bc, .slice ea d.length ec] 42) := ⟨_, rfl⟩
 have hu0 : Up (some bf) w W0 := by rw [hW0]; exact (Up.refl (some bf) w).alloc _
 have E0 : Blk W0 w.heap.size 42 [.int .i64 8, .int .i64 op, .string tx, .slice na nm.length nc, .slice sa a.length sc, .slice pa b.length pc, .slice ba c.length bc, .slice ea d.length ec] := by rw [hW0]; exact Blk.new w _ _
 have hbl := hb.lt
 have hK0 : Blk W0 bf 37 [.int .i64 lf] := by rw [hW0]; exact hb.alloc _
 have hW0s : W0.heap.size = w.heap.size + 1 := by rw [hW0]; simp
 have hO0 : Old R B W0 := ho.up hu0 hbf hB
 have hne : w.heap.size ≠ bf := by omega
 have KK : Hid (∀ W, Calls Tryz.prog 19 #[.int .i64 8] W (fun e w' => e = .returned (.int .i64 0) ∧ W = w')) := Li (fun W => by
   have h := treeParts_any 8 W
   have e : tkP 8 = 0 := by decide
   rw [e] at h
   exact h)
 have hml : a.length ≤ 9223372036854775807 ∧ b.length ≤ 9223372036854775807 ∧ c.length ≤ 9223372036854775807 ∧ d.length ≤ 9223372036854775807 ∧ nm.length ≤ 9223372036854775807 := by
   obtain ⟨_, _, _, h1, h2, _⟩ := hxa.form
   obtain ⟨_, _, _, h3, h4, _⟩ := hpb.form
   obtain ⟨_, _, _, h5, h6, _⟩ := hsc.form
   obtain ⟨_, _, _, h7, h8, _⟩ := hsd.form
   obtain ⟨_, _, _, h9, h10, _⟩ := hsn
   simp only [List.length_map] at h9
   unfold maxLen at *
   omega
 obtain ⟨ml1, ml2, ml3, ml4, ml5⟩ := hml
 have HC := Li (all_of (l := a) (fun x _ => expr_any R B bf x) sa sc (deep + 1) lf W0 hxa hO0 (by omega) hbf hK0 h0 h300 (by omega) (by omega))
 have HU0 := Li hu0; have HK0 := Li hK0; have HE0 := Li E0; have HO := Li ho
 have HIC := Li IHC; have HID := Li IHD; have HPB := Li hpb; have HTX := Li htx; have HSC := Li hsc; have HSD := Li hsd; have HSN := Li hsn; have HZN := Li hzn
 clear hu0 E0 hK0 hO0 hb ho IHC IHD hxa hpb htx hsc hsd hsn hzn
 subst hW0
 by_cases hn : a.length ≠ 0
 · have FIN : Hid ((FPost bf lf w (fun n => OkS (.mk 8 op tx v nm a b c d) ∧ (ctS (.mk 8 op tx v nm a b c d) : Int) ≤ n + 1) (.returned (.bool false)) (w.alloc (.cells #[.int .i64 8, .int .i64 op, .string tx, .slice na nm.length nc, .slice sa a.length sc, .slice pa b.length pc, .slice ba c.length bc, .slice ea d.length ec] 42)))) := Li ⟨false, lf, rfl, HK0.out, HU0.out, by omega, by omega, fun h => by simp at h⟩
   have hn1 : ((a.length : Int) != 0) = true := by rw [bne_iff_ne]; omega
   clear HK0 HU0 HE0 HC hn
   go_enter Tryz.func15, Tryz.ntmps15
   go_wp2_with (go_at_call 19; refine (KK.out _).mono ?_; rintro e w' ⟨rfl, rfl⟩)
   go_ret
   exact FIN.out
 have HN : Hid (a.length = 0) := Li (by omega)
 have hn1 : ((a.length : Int) != 0) = false := by rw [bne_eq_false_iff_eq]; omega
 clear hn
 go_enter Tryz.func15, Tryz.ntmps15
 go_wp2_with (go_at_call 19; refine (KK.out _).mono ?_; rintro e w' ⟨rfl, rfl⟩)
 clear KK hn1
 refine HC.out.mono ?_
 rintro e w1 ⟨y, l1, rfl, hb1, hu1, hl11, hl12, hok1⟩
 have HK1 := Li hb1
 have HU1 := Li (HU0.out.trans hu1)
 have hE1 := HE0.out.up hu1 (by simp only [ne_eq, Option.some.injEq]; exact hne)
 have f0 := hE1.cell 0 (by simp)
 have f1 := hE1.cell 1 (by simp)
 have f2 := hE1.cell 2 (by simp)
 have f3 := hE1.cell 3 (by simp)
 have f4 := hE1.cell 4 (by simp)
 have f5 := hE1.cell 5 (by simp)
 have f6 := hE1.cell 6 (by simp)
 have f7 := hE1.cell 7 (by simp)
 have HE1 := Li hE1
 have hs1 : w.heap.size < w1.heap.size := hE1.lt
 have HO1 := Li (HO.out.up HU1.out hbf hB)
 have hw1 : B ≤ w1.heap.size := Nat.le_trans hB HU1.out.size
 have FINF : Hid ((FPost bf lf w (fun n => OkS (.mk 8 op tx v nm a b c d) ∧ (ctS (.mk 8 op tx v nm a b c d) : Int) ≤ n + 1) (.returned (.bool false)) w1)) := Li ⟨false, l1, rfl, HK1.out, HU1.out, hl11, by omega, fun h => by simp at h⟩
 clear hE1 hb1 hu1 HE0 HK0 HU0 HC
 cases y with
 | false =>
   clear HK1 HU1 hok1 HE1
   go_wp2_with fail
   go_ret
   exact FINF.out
 | true =>
 obtain ⟨h01, hP1, hC1⟩ := hok1 rfl
 have HP1 := Li hP1
 clear hok1 hP1
 by_cases hq : 0 < c.length
 · have hz : decide (0 < c.length) = true := decide_eq_true hq
   clear HK1 HU1 HE1
   go_wp2_with fail
   go_ret
   exact FINF.out
 obtain rfl : c = [] := List.length_eq_zero_iff.1 (by omega)
 simp only [List.length_nil] at f6
 clear hq
 by_cases hq : 0 < d.length
 · have hz : decide (0 < d.length) = true := decide_eq_true hq
   clear HK1 HU1 HE1
   go_wp2_with fail
   go_ret
   exact FINF.out
 obtain rfl : d = [] := List.length_eq_zero_iff.1 (by omega)
 simp only [List.length_nil] at f7
 clear hq
 by_cases hq : 0 < b.length
 · have hz : decide (0 < b.length) = true := decide_eq_true hq
   clear HK1 HU1 HE1
   go_wp2_with fail
   go_ret
   exact FINF.out
 obtain rfl : b = [] := List.length_eq_zero_iff.1 (by omega)
 simp only [List.length_nil] at f5
 clear hq
 by_cases hq : 0 < nm.length
 · have hz : decide (0 < nm.length) = true := decide_eq_true hq
   clear HK1 HU1 HE1
   go_wp2_with fail
   go_ret
   exact FINF.out
 obtain rfl : nm = [] := List.length_eq_zero_iff.1 (by omega)
 simp only [List.length_nil] at f3
 clear hq
 by_cases hop : ¬ op = 0
 · have hop1 : (op != 0) = true := by rw [bne_iff_ne]; exact hop
   clear HK1 HU1 HE1
   go_wp2_with fail
   go_ret
   exact FINF.out
 obtain rfl : op = 0 := by omega
 clear hop
 by_cases htx : tx.toList.isEmpty = false
 · clear HK1 HU1 HE1
   go_wp2_with fail
   go_ret
   exact FINF.out
 have htx1 : tx.toList.isEmpty = true := by simpa using htx
 clear htx
 have HB := Li (stmts_of (l := ([] : List Tr)) (by intro s hs; simp at hs) ba bc (deep + 1) l1 w1 HSC.out HO1.out hw1 hbf HK1.out h01 (by omega) (by omega) (by omega))
 simp only [List.length_nil] at HB
 go_wp2_with fail
 with_reducible refine HB.out.mono ?_
 rintro e w2 ⟨y, l2, rfl, hb2, hu2, hl21, hl22, hok2⟩
 have hE2 := HE1.out.up hu2 (by simp only [ne_eq, Option.some.injEq]; exact hne)
 have g7 := hE2.cell 7 (by simp)
 simp only [List.length_nil] at g7
 have HU2 := Li (HU1.out.trans hu2)
 have HO2 := Li (HO.out.up HU2.out hbf hB)
 have hw2 : B ≤ w2.heap.size := Nat.le_trans hB HU2.out.size
 have hs2 : w.heap.size < w2.heap.size := hE2.lt
 clear hE2 hu2 HB
 cases y with
 | false =>
   have FIN : Hid ((FPost bf lf w (fun n => OkS (.mk 8 0 tx v ([] : List ByteArray) a ([] : List Tr) ([] : List Tr) ([] : List Tr)) ∧ (ctS (.mk 8 0 tx v ([] : List ByteArray) a ([] : List Tr) ([] : List Tr) ([] : List Tr)) : Int) ≤ n + 1) (.returned (.bool false)) w2)) := Li ⟨false, l2, rfl, hb2, HU2.out, hl21, by omega, fun h => by simp at h⟩
   clear hb2 hok2
   go_wp2_with fail
   go_ret
   exact FIN.out
 | true =>
 obtain ⟨h02, hP2, hC2⟩ := hok2 rfl
 have HP2 := Li hP2
 have HD := Li (stmts_of (l := ([] : List Tr)) (by intro s hs; simp at hs) ea ec (deep + 1) l2 w2 HSD.out HO2.out hw2 hbf hb2 h02 (by omega) (by omega) (by omega))
 simp only [List.length_nil] at HD
 clear hok2 hP2
 go_wp2_with fail
 with_reducible refine HD.out.mono ?_
 rintro e w3 ⟨y, l3, rfl, hb3, hu3, hl31, hl32, hok3⟩
 have FIN : Hid ((FPost bf lf w (fun n => OkS (.mk 8 0 tx v ([] : List ByteArray) a ([] : List Tr) ([] : List Tr) ([] : List Tr)) ∧ (ctS (.mk 8 0 tx v ([] : List ByteArray) a ([] : List Tr) ([] : List Tr) ([] : List Tr)) : Int) ≤ n + 1) (.returned (.bool y)) w3)) := Li ⟨y, l3, rfl, hb3, HU2.out.trans hu3, hl31, by omega, fun h => by
   obtain ⟨h03, hP3, hC3⟩ := hok3 h
   refine ⟨h03, ?_, ?_⟩
   · rw [len0 HN.out]; exact .brk _ _ _ _ _ (by omega)
   · rw [ctS_mk]; simp only [ctEs_nil, ctPs_nil, ctSs_nil] at *; omega⟩
 clear hb3 hu3 hok3 HD
 go_wp2_with fail
 go_ret
 exact FIN.out
set_option maxHeartbeats 6400000 in
theorem stmt_k9 {R : Nat → Nat → Option Value} {B bf : Nat} (op : Int) (tx : ByteArray) (v : VV) (nm : List ByteArray) (a b c d : List Tr) (na sa pa ba ea : Option Addr) (nc sc pc bc ec : Nat) (deep lf : Int) (w : World) (IHC : ∀ s ∈ c, FSt R B bf s) (IHD : ∀ s ∈ d, FSt R B bf s)
   (hsn : SlR R (.slice na nm.length nc) (nm.map .string)) (hzn : ∀ s ∈ nm, s.size ≤ maxLen) (hxa : ExL R a (.slice sa a.length sc)) (hpb : PaL R b (.slice pa b.length pc)) (hsc : StL R c (.slice ba c.length bc)) (hsd : StL R d (.slice ea d.length ec)) (htx : tx.size ≤ maxLen) (ho : Old R B w) (hB : B ≤ w.heap.size) (hbf : B ≤ bf) (hb : Blk w bf 37 [.int .i64 lf]) (h0 : 0 ≤ lf) (h300 : lf ≤ 300) (hd : 0 ≤ deep) (hd2 : deep ≤ 24) :
   Calls Tryz.prog 15 #[.pointer (some ⟨bf, 0, none⟩), .agg #[.int .i64 9, .int .i64 op, .string tx, .slice na nm.length nc, .slice sa a.length sc, .slice pa b.length pc, .slice ba c.length bc, .slice ea d.length ec], .int .i64 deep] w (FPost bf lf w (fun n => OkS (.mk 9 op tx v nm a b c d) ∧ (ctS (.mk 9 op tx v nm a b c d) : Int) ≤ n + 1)) := by
 obtain ⟨W0, hW0⟩ : ∃ W0, W0 = w.alloc (.cells #[.int .i64 9, .int .i64 op, .string tx, .slice na nm.length nc, .slice sa a.length sc, .slice pa b.length pc, .slice ba c.length bc, .slice ea d.length ec] 42) := ⟨_, rfl⟩
 have hu0 : Up (some bf) w W0 := by rw [hW0]; exact (Up.refl (some bf) w).alloc _
 have E0 : Blk W0 w.heap.size 42 [.int .i64 9, .int .i64 op, .string tx, .slice na nm.length nc, .slice sa a.length sc, .slice pa b.length pc, .slice ba c.length bc, .slice ea d.length ec] := by rw [hW0]; exact Blk.new w _ _
 have hbl := hb.lt
 have hK0 : Blk W0 bf 37 [.int .i64 lf] := by rw [hW0]; exact hb.alloc _
 have hW0s : W0.heap.size = w.heap.size + 1 := by rw [hW0]; simp
 have hO0 : Old R B W0 := ho.up hu0 hbf hB
 have hne : w.heap.size ≠ bf := by omega
 have KK : Hid (∀ W, Calls Tryz.prog 19 #[.int .i64 9] W (fun e w' => e = .returned (.int .i64 0) ∧ W = w')) := Li (fun W => by
   have h := treeParts_any 9 W
   have e : tkP 9 = 0 := by decide
   rw [e] at h
   exact h)
 have hml : a.length ≤ 9223372036854775807 ∧ b.length ≤ 9223372036854775807 ∧ c.length ≤ 9223372036854775807 ∧ d.length ≤ 9223372036854775807 ∧ nm.length ≤ 9223372036854775807 := by
   obtain ⟨_, _, _, h1, h2, _⟩ := hxa.form
   obtain ⟨_, _, _, h3, h4, _⟩ := hpb.form
   obtain ⟨_, _, _, h5, h6, _⟩ := hsc.form
   obtain ⟨_, _, _, h7, h8, _⟩ := hsd.form
   obtain ⟨_, _, _, h9, h10, _⟩ := hsn
   simp only [List.length_map] at h9
   unfold maxLen at *
   omega
 obtain ⟨ml1, ml2, ml3, ml4, ml5⟩ := hml
 have HC := Li (all_of (l := a) (fun x _ => expr_any R B bf x) sa sc (deep + 1) lf W0 hxa hO0 (by omega) hbf hK0 h0 h300 (by omega) (by omega))
 have HU0 := Li hu0; have HK0 := Li hK0; have HE0 := Li E0; have HO := Li ho
 have HIC := Li IHC; have HID := Li IHD; have HPB := Li hpb; have HTX := Li htx; have HSC := Li hsc; have HSD := Li hsd; have HSN := Li hsn; have HZN := Li hzn
 clear hu0 E0 hK0 hO0 hb ho IHC IHD hxa hpb htx hsc hsd hsn hzn
 subst hW0
 by_cases hn : a.length ≠ 0
 · have FIN : Hid ((FPost bf lf w (fun n => OkS (.mk 9 op tx v nm a b c d) ∧ (ctS (.mk 9 op tx v nm a b c d) : Int) ≤ n + 1) (.returned (.bool false)) (w.alloc (.cells #[.int .i64 9, .int .i64 op, .string tx, .slice na nm.length nc, .slice sa a.length sc, .slice pa b.length pc, .slice ba c.length bc, .slice ea d.length ec] 42)))) := Li ⟨false, lf, rfl, HK0.out, HU0.out, by omega, by omega, fun h => by simp at h⟩
   have hn1 : ((a.length : Int) != 0) = true := by rw [bne_iff_ne]; omega
   clear HK0 HU0 HE0 HC hn
   go_enter Tryz.func15, Tryz.ntmps15
   go_wp2_with (go_at_call 19; refine (KK.out _).mono ?_; rintro e w' ⟨rfl, rfl⟩)
   go_ret
   exact FIN.out
 have HN : Hid (a.length = 0) := Li (by omega)
 have hn1 : ((a.length : Int) != 0) = false := by rw [bne_eq_false_iff_eq]; omega
 clear hn
 go_enter Tryz.func15, Tryz.ntmps15
 go_wp2_with (go_at_call 19; refine (KK.out _).mono ?_; rintro e w' ⟨rfl, rfl⟩)
 clear KK hn1
 refine HC.out.mono ?_
 rintro e w1 ⟨y, l1, rfl, hb1, hu1, hl11, hl12, hok1⟩
 have HK1 := Li hb1
 have HU1 := Li (HU0.out.trans hu1)
 have hE1 := HE0.out.up hu1 (by simp only [ne_eq, Option.some.injEq]; exact hne)
 have f0 := hE1.cell 0 (by simp)
 have f1 := hE1.cell 1 (by simp)
 have f2 := hE1.cell 2 (by simp)
 have f3 := hE1.cell 3 (by simp)
 have f4 := hE1.cell 4 (by simp)
 have f5 := hE1.cell 5 (by simp)
 have f6 := hE1.cell 6 (by simp)
 have f7 := hE1.cell 7 (by simp)
 have HE1 := Li hE1
 have hs1 : w.heap.size < w1.heap.size := hE1.lt
 have HO1 := Li (HO.out.up HU1.out hbf hB)
 have hw1 : B ≤ w1.heap.size := Nat.le_trans hB HU1.out.size
 have FINF : Hid ((FPost bf lf w (fun n => OkS (.mk 9 op tx v nm a b c d) ∧ (ctS (.mk 9 op tx v nm a b c d) : Int) ≤ n + 1) (.returned (.bool false)) w1)) := Li ⟨false, l1, rfl, HK1.out, HU1.out, hl11, by omega, fun h => by simp at h⟩
 clear hE1 hb1 hu1 HE0 HK0 HU0 HC
 cases y with
 | false =>
   clear HK1 HU1 hok1 HE1
   go_wp2_with fail
   go_ret
   exact FINF.out
 | true =>
 obtain ⟨h01, hP1, hC1⟩ := hok1 rfl
 have HP1 := Li hP1
 clear hok1 hP1
 by_cases hq : 0 < c.length
 · have hz : decide (0 < c.length) = true := decide_eq_true hq
   clear HK1 HU1 HE1
   go_wp2_with fail
   go_ret
   exact FINF.out
 obtain rfl : c = [] := List.length_eq_zero_iff.1 (by omega)
 simp only [List.length_nil] at f6
 clear hq
 by_cases hq : 0 < d.length
 · have hz : decide (0 < d.length) = true := decide_eq_true hq
   clear HK1 HU1 HE1
   go_wp2_with fail
   go_ret
   exact FINF.out
 obtain rfl : d = [] := List.length_eq_zero_iff.1 (by omega)
 simp only [List.length_nil] at f7
 clear hq
 by_cases hq : 0 < b.length
 · have hz : decide (0 < b.length) = true := decide_eq_true hq
   clear HK1 HU1 HE1
   go_wp2_with fail
   go_ret
   exact FINF.out
 obtain rfl : b = [] := List.length_eq_zero_iff.1 (by omega)
 simp only [List.length_nil] at f5
 clear hq
 by_cases hq : 0 < nm.length
 · have hz : decide (0 < nm.length) = true := decide_eq_true hq
   clear HK1 HU1 HE1
   go_wp2_with fail
   go_ret
   exact FINF.out
 obtain rfl : nm = [] := List.length_eq_zero_iff.1 (by omega)
 simp only [List.length_nil] at f3
 clear hq
 by_cases hop : ¬ op = 0
 · have hop1 : (op != 0) = true := by rw [bne_iff_ne]; exact hop
   clear HK1 HU1 HE1
   go_wp2_with fail
   go_ret
   exact FINF.out
 obtain rfl : op = 0 := by omega
 clear hop
 by_cases htx : tx.toList.isEmpty = false
 · clear HK1 HU1 HE1
   go_wp2_with fail
   go_ret
   exact FINF.out
 have htx1 : tx.toList.isEmpty = true := by simpa using htx
 clear htx
 have HB := Li (stmts_of (l := ([] : List Tr)) (by intro s hs; simp at hs) ba bc (deep + 1) l1 w1 HSC.out HO1.out hw1 hbf HK1.out h01 (by omega) (by omega) (by omega))
 simp only [List.length_nil] at HB
 go_wp2_with fail
 with_reducible refine HB.out.mono ?_
 rintro e w2 ⟨y, l2, rfl, hb2, hu2, hl21, hl22, hok2⟩
 have hE2 := HE1.out.up hu2 (by simp only [ne_eq, Option.some.injEq]; exact hne)
 have g7 := hE2.cell 7 (by simp)
 simp only [List.length_nil] at g7
 have HU2 := Li (HU1.out.trans hu2)
 have HO2 := Li (HO.out.up HU2.out hbf hB)
 have hw2 : B ≤ w2.heap.size := Nat.le_trans hB HU2.out.size
 have hs2 : w.heap.size < w2.heap.size := hE2.lt
 clear hE2 hu2 HB
 cases y with
 | false =>
   have FIN : Hid ((FPost bf lf w (fun n => OkS (.mk 9 0 tx v ([] : List ByteArray) a ([] : List Tr) ([] : List Tr) ([] : List Tr)) ∧ (ctS (.mk 9 0 tx v ([] : List ByteArray) a ([] : List Tr) ([] : List Tr) ([] : List Tr)) : Int) ≤ n + 1) (.returned (.bool false)) w2)) := Li ⟨false, l2, rfl, hb2, HU2.out, hl21, by omega, fun h => by simp at h⟩
   clear hb2 hok2
   go_wp2_with fail
   go_ret
   exact FIN.out
 | true =>
 obtain ⟨h02, hP2, hC2⟩ := hok2 rfl
 have HP2 := Li hP2
 have HD := Li (stmts_of (l := ([] : List Tr)) (by intro s hs; simp at hs) ea ec (deep + 1) l2 w2 HSD.out HO2.out hw2 hbf hb2 h02 (by omega) (by omega) (by omega))
 simp only [List.length_nil] at HD
 clear hok2 hP2
 go_wp2_with fail
 with_reducible refine HD.out.mono ?_
 rintro e w3 ⟨y, l3, rfl, hb3, hu3, hl31, hl32, hok3⟩
 have FIN : Hid ((FPost bf lf w (fun n => OkS (.mk 9 0 tx v ([] : List ByteArray) a ([] : List Tr) ([] : List Tr) ([] : List Tr)) ∧ (ctS (.mk 9 0 tx v ([] : List ByteArray) a ([] : List Tr) ([] : List Tr) ([] : List Tr)) : Int) ≤ n + 1) (.returned (.bool y)) w3)) := Li ⟨y, l3, rfl, hb3, HU2.out.trans hu3, hl31, by omega, fun h => by
   obtain ⟨h03, hP3, hC3⟩ := hok3 h
   refine ⟨h03, ?_, ?_⟩
   · rw [len0 HN.out]; exact .brk _ _ _ _ _ (by omega)
   · rw [ctS_mk]; simp only [ctEs_nil, ctPs_nil, ctSs_nil] at *; omega⟩
 clear hb3 hu3 hok3 HD
 go_wp2_with fail
 go_ret
 exact FIN.out
set_option maxHeartbeats 6400000 in
theorem stmt_k10 {R : Nat → Nat → Option Value} {B bf : Nat} (op : Int) (tx : ByteArray) (v : VV) (nm : List ByteArray) (a b c d : List Tr) (na sa pa ba ea : Option Addr) (nc sc pc bc ec : Nat) (deep lf : Int) (w : World) (IHC : ∀ s ∈ c, FSt R B bf s) (IHD : ∀ s ∈ d, FSt R B bf s)
   (hsn : SlR R (.slice na nm.length nc) (nm.map .string)) (hzn : ∀ s ∈ nm, s.size ≤ maxLen) (hxa : ExL R a (.slice sa a.length sc)) (hpb : PaL R b (.slice pa b.length pc)) (hsc : StL R c (.slice ba c.length bc)) (hsd : StL R d (.slice ea d.length ec)) (htx : tx.size ≤ maxLen) (ho : Old R B w) (hB : B ≤ w.heap.size) (hbf : B ≤ bf) (hb : Blk w bf 37 [.int .i64 lf]) (h0 : 0 ≤ lf) (h300 : lf ≤ 300) (hd : 0 ≤ deep) (hd2 : deep ≤ 24) :
   Calls Tryz.prog 15 #[.pointer (some ⟨bf, 0, none⟩), .agg #[.int .i64 10, .int .i64 op, .string tx, .slice na nm.length nc, .slice sa a.length sc, .slice pa b.length pc, .slice ba c.length bc, .slice ea d.length ec], .int .i64 deep] w (FPost bf lf w (fun n => OkS (.mk 10 op tx v nm a b c d) ∧ (ctS (.mk 10 op tx v nm a b c d) : Int) ≤ n + 1)) := by
 obtain ⟨W0, hW0⟩ : ∃ W0, W0 = w.alloc (.cells #[.int .i64 10, .int .i64 op, .string tx, .slice na nm.length nc, .slice sa a.length sc, .slice pa b.length pc, .slice ba c.length bc, .slice ea d.length ec] 42) := ⟨_, rfl⟩
 have hu0 : Up (some bf) w W0 := by rw [hW0]; exact (Up.refl (some bf) w).alloc _
 have E0 : Blk W0 w.heap.size 42 [.int .i64 10, .int .i64 op, .string tx, .slice na nm.length nc, .slice sa a.length sc, .slice pa b.length pc, .slice ba c.length bc, .slice ea d.length ec] := by rw [hW0]; exact Blk.new w _ _
 have hbl := hb.lt
 have hK0 : Blk W0 bf 37 [.int .i64 lf] := by rw [hW0]; exact hb.alloc _
 have hW0s : W0.heap.size = w.heap.size + 1 := by rw [hW0]; simp
 have hO0 : Old R B W0 := ho.up hu0 hbf hB
 have hne : w.heap.size ≠ bf := by omega
 have KK : Hid (∀ W, Calls Tryz.prog 19 #[.int .i64 10] W (fun e w' => e = .returned (.int .i64 0) ∧ W = w')) := Li (fun W => by
   have h := treeParts_any 10 W
   have e : tkP 10 = 0 := by decide
   rw [e] at h
   exact h)
 have hml : a.length ≤ 9223372036854775807 ∧ b.length ≤ 9223372036854775807 ∧ c.length ≤ 9223372036854775807 ∧ d.length ≤ 9223372036854775807 ∧ nm.length ≤ 9223372036854775807 := by
   obtain ⟨_, _, _, h1, h2, _⟩ := hxa.form
   obtain ⟨_, _, _, h3, h4, _⟩ := hpb.form
   obtain ⟨_, _, _, h5, h6, _⟩ := hsc.form
   obtain ⟨_, _, _, h7, h8, _⟩ := hsd.form
   obtain ⟨_, _, _, h9, h10, _⟩ := hsn
   simp only [List.length_map] at h9
   unfold maxLen at *
   omega
 obtain ⟨ml1, ml2, ml3, ml4, ml5⟩ := hml
 have HC := Li (all_of (l := a) (fun x _ => expr_any R B bf x) sa sc (deep + 1) lf W0 hxa hO0 (by omega) hbf hK0 h0 h300 (by omega) (by omega))
 have HU0 := Li hu0; have HK0 := Li hK0; have HE0 := Li E0; have HO := Li ho
 have HIC := Li IHC; have HID := Li IHD; have HPB := Li hpb; have HTX := Li htx; have HSC := Li hsc; have HSD := Li hsd; have HSN := Li hsn; have HZN := Li hzn
 clear hu0 E0 hK0 hO0 hb ho IHC IHD hxa hpb htx hsc hsd hsn hzn
 subst hW0
 by_cases hn : a.length ≠ 0
 · have FIN : Hid ((FPost bf lf w (fun n => OkS (.mk 10 op tx v nm a b c d) ∧ (ctS (.mk 10 op tx v nm a b c d) : Int) ≤ n + 1) (.returned (.bool false)) (w.alloc (.cells #[.int .i64 10, .int .i64 op, .string tx, .slice na nm.length nc, .slice sa a.length sc, .slice pa b.length pc, .slice ba c.length bc, .slice ea d.length ec] 42)))) := Li ⟨false, lf, rfl, HK0.out, HU0.out, by omega, by omega, fun h => by simp at h⟩
   have hn1 : ((a.length : Int) != 0) = true := by rw [bne_iff_ne]; omega
   clear HK0 HU0 HE0 HC hn
   go_enter Tryz.func15, Tryz.ntmps15
   go_wp2_with (go_at_call 19; refine (KK.out _).mono ?_; rintro e w' ⟨rfl, rfl⟩)
   go_ret
   exact FIN.out
 have HN : Hid (a.length = 0) := Li (by omega)
 have hn1 : ((a.length : Int) != 0) = false := by rw [bne_eq_false_iff_eq]; omega
 clear hn
 go_enter Tryz.func15, Tryz.ntmps15
 go_wp2_with (go_at_call 19; refine (KK.out _).mono ?_; rintro e w' ⟨rfl, rfl⟩)
 clear KK hn1
 refine HC.out.mono ?_
 rintro e w1 ⟨y, l1, rfl, hb1, hu1, hl11, hl12, hok1⟩
 have HK1 := Li hb1
 have HU1 := Li (HU0.out.trans hu1)
 have hE1 := HE0.out.up hu1 (by simp only [ne_eq, Option.some.injEq]; exact hne)
 have f0 := hE1.cell 0 (by simp)
 have f1 := hE1.cell 1 (by simp)
 have f2 := hE1.cell 2 (by simp)
 have f3 := hE1.cell 3 (by simp)
 have f4 := hE1.cell 4 (by simp)
 have f5 := hE1.cell 5 (by simp)
 have f6 := hE1.cell 6 (by simp)
 have f7 := hE1.cell 7 (by simp)
 have HE1 := Li hE1
 have hs1 : w.heap.size < w1.heap.size := hE1.lt
 have HO1 := Li (HO.out.up HU1.out hbf hB)
 have hw1 : B ≤ w1.heap.size := Nat.le_trans hB HU1.out.size
 have FINF : Hid ((FPost bf lf w (fun n => OkS (.mk 10 op tx v nm a b c d) ∧ (ctS (.mk 10 op tx v nm a b c d) : Int) ≤ n + 1) (.returned (.bool false)) w1)) := Li ⟨false, l1, rfl, HK1.out, HU1.out, hl11, by omega, fun h => by simp at h⟩
 clear hE1 hb1 hu1 HE0 HK0 HU0 HC
 cases y with
 | false =>
   clear HK1 HU1 hok1 HE1
   go_wp2_with fail
   go_ret
   exact FINF.out
 | true =>
 obtain ⟨h01, hP1, hC1⟩ := hok1 rfl
 have HP1 := Li hP1
 clear hok1 hP1
 by_cases hq : 0 < c.length
 · have hz : decide (0 < c.length) = true := decide_eq_true hq
   clear HK1 HU1 HE1
   go_wp2_with fail
   go_ret
   exact FINF.out
 obtain rfl : c = [] := List.length_eq_zero_iff.1 (by omega)
 simp only [List.length_nil] at f6
 clear hq
 by_cases hq : 0 < d.length
 · have hz : decide (0 < d.length) = true := decide_eq_true hq
   clear HK1 HU1 HE1
   go_wp2_with fail
   go_ret
   exact FINF.out
 obtain rfl : d = [] := List.length_eq_zero_iff.1 (by omega)
 simp only [List.length_nil] at f7
 clear hq
 by_cases hq : 0 < b.length
 · have hz : decide (0 < b.length) = true := decide_eq_true hq
   clear HK1 HU1 HE1
   go_wp2_with fail
   go_ret
   exact FINF.out
 obtain rfl : b = [] := List.length_eq_zero_iff.1 (by omega)
 simp only [List.length_nil] at f5
 clear hq
 by_cases hq : 0 < nm.length
 · have hz : decide (0 < nm.length) = true := decide_eq_true hq
   clear HK1 HU1 HE1
   go_wp2_with fail
   go_ret
   exact FINF.out
 obtain rfl : nm = [] := List.length_eq_zero_iff.1 (by omega)
 simp only [List.length_nil] at f3
 clear hq
 by_cases hop : ¬ op = 0
 · have hop1 : (op != 0) = true := by rw [bne_iff_ne]; exact hop
   clear HK1 HU1 HE1
   go_wp2_with fail
   go_ret
   exact FINF.out
 obtain rfl : op = 0 := by omega
 clear hop
 by_cases htx : tx.toList.isEmpty = false
 · clear HK1 HU1 HE1
   go_wp2_with fail
   go_ret
   exact FINF.out
 have htx1 : tx.toList.isEmpty = true := by simpa using htx
 clear htx
 have HB := Li (stmts_of (l := ([] : List Tr)) (by intro s hs; simp at hs) ba bc (deep + 1) l1 w1 HSC.out HO1.out hw1 hbf HK1.out h01 (by omega) (by omega) (by omega))
 simp only [List.length_nil] at HB
 go_wp2_with fail
 with_reducible refine HB.out.mono ?_
 rintro e w2 ⟨y, l2, rfl, hb2, hu2, hl21, hl22, hok2⟩
 have hE2 := HE1.out.up hu2 (by simp only [ne_eq, Option.some.injEq]; exact hne)
 have g7 := hE2.cell 7 (by simp)
 simp only [List.length_nil] at g7
 have HU2 := Li (HU1.out.trans hu2)
 have HO2 := Li (HO.out.up HU2.out hbf hB)
 have hw2 : B ≤ w2.heap.size := Nat.le_trans hB HU2.out.size
 have hs2 : w.heap.size < w2.heap.size := hE2.lt
 clear hE2 hu2 HB
 cases y with
 | false =>
   have FIN : Hid ((FPost bf lf w (fun n => OkS (.mk 10 0 tx v ([] : List ByteArray) a ([] : List Tr) ([] : List Tr) ([] : List Tr)) ∧ (ctS (.mk 10 0 tx v ([] : List ByteArray) a ([] : List Tr) ([] : List Tr) ([] : List Tr)) : Int) ≤ n + 1) (.returned (.bool false)) w2)) := Li ⟨false, l2, rfl, hb2, HU2.out, hl21, by omega, fun h => by simp at h⟩
   clear hb2 hok2
   go_wp2_with fail
   go_ret
   exact FIN.out
 | true =>
 obtain ⟨h02, hP2, hC2⟩ := hok2 rfl
 have HP2 := Li hP2
 have HD := Li (stmts_of (l := ([] : List Tr)) (by intro s hs; simp at hs) ea ec (deep + 1) l2 w2 HSD.out HO2.out hw2 hbf hb2 h02 (by omega) (by omega) (by omega))
 simp only [List.length_nil] at HD
 clear hok2 hP2
 go_wp2_with fail
 with_reducible refine HD.out.mono ?_
 rintro e w3 ⟨y, l3, rfl, hb3, hu3, hl31, hl32, hok3⟩
 have FIN : Hid ((FPost bf lf w (fun n => OkS (.mk 10 0 tx v ([] : List ByteArray) a ([] : List Tr) ([] : List Tr) ([] : List Tr)) ∧ (ctS (.mk 10 0 tx v ([] : List ByteArray) a ([] : List Tr) ([] : List Tr) ([] : List Tr)) : Int) ≤ n + 1) (.returned (.bool y)) w3)) := Li ⟨y, l3, rfl, hb3, HU2.out.trans hu3, hl31, by omega, fun h => by
   obtain ⟨h03, hP3, hC3⟩ := hok3 h
   refine ⟨h03, ?_, ?_⟩
   · rw [len0 HN.out]; exact .brk _ _ _ _ _ (by omega)
   · rw [ctS_mk]; simp only [ctEs_nil, ctPs_nil, ctSs_nil] at *; omega⟩
 clear hb3 hu3 hok3 HD
 go_wp2_with fail
 go_ret
 exact FIN.out
end Go.Proofs.YtoojgjhfmmohbaaGreat
