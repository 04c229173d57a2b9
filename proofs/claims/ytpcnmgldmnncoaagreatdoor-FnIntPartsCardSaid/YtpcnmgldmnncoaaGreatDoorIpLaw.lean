/- The law FnIntParts. -/
import Derived.Test.YtpcnmgldmnncoaaGreatDoorIpSt
import Derived.Test.YtpcnmgldmnncoaaGreatDoorMImpl
import Derived.Test.YtpcnmgldmnncoaaGreatDoorImplMul
import Derived.Test.YtpcnmgldmnncoaaGreatDoorImplAdd
import Derived.Test.YtpcnmgldmnncoaaGreatDoorMCmp
import Derived.Test.YtpcnmgldmnncoaaGreatDoorRowSl
namespace Go.Proofs.YtpcnmgldmnncoaaGreatDoor
open Go.RowKit Dig
set_option linter.unusedVariables false
set_option linter.unusedSimpArgs false
set_option maxRecDepth 100000

theorem ip_lim {i : Int} (h : i.natAbs < 256 ^ 200) : i.natAbs < 18446744073709551616 ^ 39 ∧ i.natAbs + 1 < lim ∧ i.natAbs < 256 ^ 200 := by
  have e : (256 : Nat) ^ 200 = 18446744073709551616 ^ 25 := by rw [pow_words]
  have h1 : (18446744073709551616 : Nat) ^ 25 ≤ 18446744073709551616 ^ 39 := Nat.pow_le_pow_right (by omega) (by omega)
  have h2 : (18446744073709551616 : Nat) ^ 25 < 18446744073709551616 ^ 39 := Nat.pow_lt_pow_right (by omega) (by omega)
  have h3 := pow_le_lim 39 (by omega)
  rw [e] at h ⊢
  generalize (18446744073709551616 : Nat) ^ 25 = a at *
  generalize (18446744073709551616 : Nat) ^ 39 = b at *
  omega
theorem dvF_abs (i j : Int) : (dvF i j).natAbs ≤ i.natAbs + 1 := by
  have h := tdiv_abs i j
  have h2 := Nat.div_le_self i.natAbs j.natAbs
  unfold dvF
  split <;> omega
theorem ip_bounds {i j : Int} (hi : i.natAbs < 256 ^ 200) (hj : j.natAbs < 256 ^ 200) (hj0 : j ≠ 0) : i.natAbs + 1 < lim ∧ j.natAbs < 18446744073709551616 ^ 39 ∧ (mdF i j).natAbs < lim ∧ (dvF i j).natAbs < lim ∧ (dvF i j * j).natAbs < lim ∧ j.natAbs < lim := by
  obtain ⟨_, h1, _⟩ := ip_lim hi
  obtain ⟨h2, h3, _⟩ := ip_lim hj
  have hm := (mdF_lt i j hj0).2.2
  have hd := dvF_abs i j
  have he := dvF_mdF i j
  have h5 : (256 : Nat) ^ 201 < lim := by
    have e : lim = 256 ^ (8 * limW) := rfl
    rw [e]
    exact Nat.pow_lt_pow_right (by omega) (by rw [limW_eq]; omega)
  have h6 : (256 : Nat) ^ 201 = 256 ^ 200 * 256 := Nat.pow_succ 256 200
  rw [h6] at h5
  generalize (256 : Nat) ^ 200 = P at *
  generalize dvF i j * j = t at *
  omega
set_option maxHeartbeats 6400000 in
theorem lawParts (an bn : Bool) (a b : Value) (ms ns : List Nat) (w : World) (hms : ∀ x ∈ ms, x < 256) (hns : ∀ x ∈ ns, x < 256) (ha : Sl w w.heap.size a (ms.map bv)) (hb : Sl w w.heap.size b (ns.map bv)) (lm : ms.length ≤ maxLen) (ln : ns.length ≤ maxLen)
    (hg0 : w.cell? ⟨0, 0, none⟩ = some (.int .i64 40)) (hg3 : w.cell? ⟨3, 0, none⟩ = some (.int .i64 40)) :
    Calls Tryz.prog 3 #[.bool an, a, .bool bn, b] w fun e w' => e = .returned (.bool true) ∧ Below w.heap.size w w' := by
  simp only [maxLen] at lm ln
  obtain ⟨aa, ca, rfl, hca, _⟩ := id ha
  obtain ⟨ab, cb, rfl, hcb, _⟩ := id hb
  simp only [List.length_map] at ha hb hca hcb ⊢
  by_cases l1 : ms.length ≤ 2147483647
  · by_cases l2 : ns.length ≤ 2147483647
    · have WA := Lib.hid (lawsWhole_any an ms _ 200 w hms ha l1 (by omega))
      have WB : Hid (∀ W, Below w.heap.size w W → Calls Tryz.prog 4 #[.bool bn, .slice ab ns.length cb, .int .i64 200] W (PairPost 200 W)) := Lib.hid (fun W h => lawsWhole_any bn ns _ 200 W hns ((hb.below h).more h.size) l2 (by omega))
      have G0 := Lib.hid hg0
      have G3 := Lib.hid hg3
      clear ha hb hms hns hg0 hg3
      go_enter Tryz.func3, Tryz.ntmps3
      go_wp2_with fail
      refine WA.out.mono ?_
      rintro e w1 ⟨i, n1, n2, a1, a2, k1, c1, k2, c2, hi, rfl, hx, hp, hb1⟩
      have HX := Lib.hid hx; have HP := Lib.hid hp; have HB1 := Lib.hid hb1; have HI := Lib.hid hi
      clear hx hp hb1 hi
      go_wp2_with fail
      have BA : Below w1.heap.size w1 ((w1.alloc (.cells #[.bool n1, .slice a1 k1 c1] 24)).alloc (.cells #[.int .i64 2, .bool n2, .slice a2 k2 c2, .int .u64 0, .string ByteArray.empty, .slice none 0 0] 28)) := ((Below.refl _ _).alloc (Nat.le_refl _) _).alloc (by simp) _
      have hXA : Blk ((w1.alloc (.cells #[.bool n1, .slice a1 k1 c1] 24)).alloc (.cells #[.int .i64 2, .bool n2, .slice a2 k2 c2, .int .u64 0, .string ByteArray.empty, .slice none 0 0] 28)) w1.heap.size 24 [.bool n1, .slice a1 k1 c1] := (Blk.new w1 _ [.bool n1, .slice a1 k1 c1]).alloc _
      have hPA : Blk ((w1.alloc (.cells #[.bool n1, .slice a1 k1 c1] 24)).alloc (.cells #[.int .i64 2, .bool n2, .slice a2 k2 c2, .int .u64 0, .string ByteArray.empty, .slice none 0 0] 28)) (w1.heap.size + 1) 28 [.int .i64 2, .bool n2, .slice a2 k2 c2, .int .u64 0, .string ByteArray.empty, .slice none 0 0] := by
        have := Blk.new (w1.alloc (.cells #[.bool n1, .slice a1 k1 c1] 24)) 28 [.int .i64 2, .bool n2, .slice a2 k2 c2, .int .u64 0, .string ByteArray.empty, .slice none 0 0]
        simpa using this
      have HBA := Lib.hid BA; have HXA := Lib.hid hXA; have HPA := Lib.hid hPA
      have WB1 := Lib.hid (WB.out _ (HB1.out.trans (BA.mono HB1.out.size)))
      clear BA hXA hPA WB WA
      refine WB1.out.mono ?_
      rintro e w2 ⟨j0, n3, n4, a3, a4, k3, c3, k4, c4, hj, rfl, hy, hq, hb2⟩
      obtain ⟨Wb, hWb⟩ : ∃ Wb, Wb = (w2.alloc (.cells #[.bool n3, .slice a3 k3 c3] 24)).alloc (.cells #[.int .i64 2, .bool n4, .slice a4 k4 c4, .int .u64 0, .string ByteArray.empty, .slice none 0 0] 28) := ⟨_, rfl⟩
      have ST : Hid (LwSt w w1.heap.size (w1.heap.size + 1) w2.heap.size (w2.heap.size + 1) i j0 n1 n2 n3 n4 a1 a2 a3 a4 k1 c1 k2 c2 k3 c3 k4 c4 Wb) := Lib.hid (by
        have h2 : Below w1.heap.size w1 w2 := HBA.out.trans (hb2.mono HBA.out.size)
        have hX2 := HXA.out.below hb2 HXA.out.lt
        have hP2 := HPA.out.below hb2 HPA.out.lt
        have BB : Below w2.heap.size w2 Wb := by rw [hWb]; exact ((Below.refl _ _).alloc (Nat.le_refl _) _).alloc (by simp) _
        have hYB : Blk Wb w2.heap.size 24 [.bool n3, .slice a3 k3 c3] := by rw [hWb]; exact (Blk.new w2 _ [.bool n3, .slice a3 k3 c3]).alloc _
        have hQB : Blk Wb (w2.heap.size + 1) 28 [.int .i64 2, .bool n4, .slice a4 k4 c4, .int .u64 0, .string ByteArray.empty, .slice none 0 0] := by
          rw [hWb]
          have := Blk.new (w2.alloc (.cells #[.bool n3, .slice a3 k3 c3] 24)) 28 [.int .i64 2, .bool n4, .slice a4 k4 c4, .int .u64 0, .string ByteArray.empty, .slice none 0 0]
          simpa using this
        have h12 : Below w1.heap.size w1 Wb := h2.trans (BB.mono h2.size)
        have hlq := hQB.lt
        have hlp := hP2.lt
        exact ⟨hX2.below BB hX2.lt, hP2.below BB hP2.lt, hYB, hQB, (HX.out.below h12).more h12.size, (HP.out.below h12).more h12.size, (hy.below BB).more BB.size, (hq.below BB).more BB.size, HB1.out.trans (h12.mono HB1.out.size), HB1.out.size, by omega, by omega, by omega, hlq⟩)
      have HJ := Lib.hid hj
      have hlw := HPA.out.lt
      have hlw2 := hb2.size
      have lw1 : w1.heap.size + 1 < w2.heap.size := by omega
      clear HX HP HBA HXA HPA WB1 HB1 hy hq hb2 hj hlw hlw2
      have CZ := Lib.hid (spZero_any j0 _ Wb ST.out.sY)
      go_upto_region 5 with fail
      rw [← hWb]
      obtain ⟨bx, hbx⟩ : ∃ bx, bx = w1.heap.size := ⟨_, rfl⟩
      obtain ⟨bp, hbp⟩ : ∃ bp, bp = w1.heap.size + 1 := ⟨_, rfl⟩
      obtain ⟨by_, hby⟩ : ∃ by_, by_ = w2.heap.size := ⟨_, rfl⟩
      obtain ⟨bq, hbq⟩ : ∃ bq, bq = w2.heap.size + 1 := ⟨_, rfl⟩
      rw [← hbp, ← hbq, ← hbx, ← hby] at ST ⊢
      have HBX := Lib.hid hbx
      clear hbx hbp hby hbq lw1 hWb HBX
      have y0 := ST.out.bY.cell 0 (by simp)
      have y1 := ST.out.bY.cell 1 (by simp)
      simp only [List.getD_cons_zero, List.getD_cons_succ] at y0 y1
      go_wp2_with fail
      refine CZ.out.mono ?_
      rintro e w3 ⟨rfl, hb3⟩
      have ST3 := Lib.hid (ST.out.below hb3)
      obtain ⟨T, hT⟩ : ∃ T, T = decide (j0 = 0) := ⟨_, rfl⟩
      rw [← hT]
      have HT := Lib.hid hT
      clear hb3 y0 y1 CZ ST hT
      go_upto_if 38 with fail
      go_cut [] from 39 to 41 (fun wx => ∃ (j : Int) (n5 n6 : Bool) (a5 a6 : Option Addr) (k5 c5 k6 c6 : Nat), j ≠ 0 ∧ j.natAbs < 256 ^ 200 ∧ LwSt w bx bp by_ bq i j n1 n2 n5 n6 a1 a2 a5 a6 k1 c1 k2 c2 k5 c5 k6 c6 wx)
      case first =>
        cases T
        · go_wp2_with fail
          go_meet
          exact ⟨j0, n3, n4, a3, a4, k3, c3, k4, c4, by have := HT.out; simpa using this, HJ.out, ST3.out⟩
        · have CS1 := Lib.hid (fun W => small_any (-3) W (by omega) (by omega))
          have CT := Lib.hid (fun v W (h : Sp W W.heap.size v (-3)) => told_any v (-3) W h (lim_of (-3) 200 (Nat.lt_of_lt_of_le (show (-3 : Int).natAbs < 256 ^ 1 by decide) (Nat.pow_le_pow_right (by omega) (by omega))) (by omega)))
          go_wp2_with fail
          refine (CS1.out _).mono ?_
          rintro e w4 ⟨v4, rfl, hs4, hb4⟩
          have ST4 := Lib.hid (ST3.out.below hb4)
          obtain ⟨n5, a5, k5, c5, rfl⟩ := hs4.form
          have HS4 := Lib.hid hs4
          clear hs4 hb4 ST3
          go_wp2_with fail
          refine (CS1.out _).mono ?_
          rintro e w5 ⟨v5, rfl, hs5, hb5⟩
          have ST5 := Lib.hid (ST4.out.below hb5)
          have HS5 := Lib.hid ((HS4.out.below hb5).more hb5.size)
          have CT5 := Lib.hid (CT.out v5 w5 hs5)
          clear hs5 hb5 ST4 HS4 CT CS1
          go_wp2_with fail
          refine CT5.out.mono ?_
          rintro e w6 ⟨v6, rfl, hv6, hb6⟩
          have ST6 := Lib.hid (ST5.out.below hb6)
          have HS6 := Lib.hid ((HS5.out.below hb6).more hb6.size)
          obtain ⟨n6, a6, k6, c6, rfl⟩ := hv6.parts
          have HV6 := Lib.hid hv6
          clear hv6 hb6 ST5 HS5 CT5
          have y0 := ST6.out.bY.cell 0 (by simp)
          have y1 := ST6.out.bY.cell 1 (by simp)
          have yf0 := ST6.out.bY.free 0
          have yf1 := ST6.out.bY.free 1
          have yl := ST6.out.bY.lt
          obtain ⟨p0, p1, p2, p3, p4, p5⟩ := val_cells ST6.out.bQ
          have f0 := ST6.out.bQ.free 0
          have f1 := ST6.out.bQ.free 1
          have f2 := ST6.out.bQ.free 2
          have f3 := ST6.out.bQ.free 3
          have f4 := ST6.out.bQ.free 4
          have f5 := ST6.out.bQ.free 5
          have fl := ST6.out.bQ.lt
          have hne : ¬ by_ = bq := by have := ST6.out.lt; omega
          have hne2 : ¬ bq = by_ := by omega
          go_wp2_with fail
          go_meet
          exact ⟨-3, n5, n6, a5, a6, k5, c5, k6, c6, by omega, Nat.lt_of_lt_of_le (show (-3 : Int).natAbs < 256 ^ 1 by decide) (Nat.pow_le_pow_right (by omega) (by omega)), ST6.out.store (-3) n5 n6 a5 a6 k5 c5 k6 c6 HS6.out HV6.out rfl⟩
      obtain ⟨j, n5, n6, a5, a6, k5, c5, k6, c6, hj0, hjl, hst⟩ := hcut
      obtain ⟨B1, B2, B3, B4, B5, B6⟩ := ip_bounds HI.out hjl hj0
      have ST7 := Lib.hid hst
      have BD := Lib.hid (And.intro B1 (And.intro B2 (And.intro B3 (And.intro B4 (And.intro B5 B6)))))
      have HJ0 := Lib.hid hj0
      have HJL := Lib.hid hjl
      have GC : Hid (∀ W, Below w.heap.size w W → W.cell? ⟨0, 0, none⟩ = some (.int .i64 40) ∧ 0 < W.heap.size ∧ W.cell? ⟨3, 0, none⟩ = some (.int .i64 40) ∧ 3 < W.heap.size) := Lib.hid (fun W h => by
        have h0 := (h.cell (p := ⟨0, 0, none⟩) (lt_of_cell G0.out)).trans G0.out
        have h3 := (h.cell (p := ⟨3, 0, none⟩) (lt_of_cell G3.out)).trans G3.out
        exact ⟨h0, lt_of_cell h0, h3, lt_of_cell h3⟩)
      obtain ⟨gc1, gc2, gc3, gc4⟩ := GC.out _ hst.b
      have CMD := Lib.hid (implMod_any i j _ _ _ hst.vP hst.vQ B1 hj0 B2 B3 gc2 gc1)
      clear hj0 hjl hst B1 B2 B3 B4 B5 B6 gc1 gc2 gc3 gc4 HT HJ ST3 G0 G3
      obtain ⟨p0, p1, p2, p3, p4, p5⟩ := val_cells ST7.out.bP
      obtain ⟨q0, q1, q2, q3, q4, q5⟩ := val_cells ST7.out.bQ
      have pl := ST7.out.bP.lt
      have ql := ST7.out.bQ.lt
      go_wp2_with fail
      refine CMD.out.mono ?_
      rintro e w7 ⟨v7, rfl, hv7, hb7⟩
      obtain ⟨n7, a7, k7, c7, rfl⟩ := hv7.parts
      obtain ⟨W8, hW8⟩ : ∃ W8, W8 = w7.alloc (.cells #[.int .i64 2, .bool n7, .slice a7 k7 c7, .int .u64 0, .string ByteArray.empty, .slice none 0 0] 28) := ⟨_, rfl⟩
      obtain ⟨bl, hbl⟩ : ∃ bl, bl = w7.heap.size := ⟨_, rfl⟩
      have hal : Below w7.heap.size w7 W8 := by rw [hW8]; exact (Below.refl _ _).alloc (Nat.le_refl _) _
      have ST8 := Lib.hid ((ST7.out.below hb7).below hal)
      have VL8 : Hid (Va W8 W8.heap.size (.agg #[.int .i64 2, .bool n7, .slice a7 k7 c7, .int .u64 0, .string ByteArray.empty, .slice none 0 0]) (mdF i j)) := Lib.hid ((hv7.below hal).more hal.size)
      have BL8 : Hid (Blk W8 bl 28 [.int .i64 2, .bool n7, .slice a7 k7 c7, .int .u64 0, .string ByteArray.empty, .slice none 0 0] ∧ bq < bl) := Lib.hid ⟨by rw [hW8, hbl]; exact Blk.new w7 _ _, by rw [hbl]; have := ST7.out.lt; have := hb7.size; omega⟩
      have KEEP : Hid (∀ W, Below W8.heap.size W8 W → _ ∧ _ ∧ _) := Lib.hid (fun W h => ⟨val_cells (ST8.out.bP.below h ST8.out.bP.lt), val_cells (ST8.out.bQ.below h ST8.out.bQ.lt), val_cells (BL8.out.1.below h BL8.out.1.lt)⟩)
      have IDIV : Hid (∀ oa W, Rx W8 none oa W → Calls Tryz.prog 11 #[.agg #[.int .i64 2, .bool n2, .slice a2 k2 c2, .int .u64 0, .string ByteArray.empty, .slice none 0 0], .agg #[.int .i64 2, .bool n6, .slice a6 k6 c6, .int .u64 0, .string ByteArray.empty, .slice none 0 0]] W fun e w' => ∃ n a k c, e = .returned (.agg #[.int .i64 2, .bool n, .slice a k c, .int .u64 0, .string ByteArray.empty, .slice none 0 0]) ∧ Va w' w'.heap.size (.agg #[.int .i64 2, .bool n, .slice a k c, .int .u64 0, .string ByteArray.empty, .slice none 0 0]) (dvF i j) ∧ Rx W8 (some (.agg #[.int .i64 2, .bool n, .slice a k c, .int .u64 0, .string ByteArray.empty, .slice none 0 0], dvF i j)) oa w') := Lib.hid (by
        intro oa W h
        have s := ST8.out.below h.b
        obtain ⟨gc1, gc2, gc3, gc4⟩ := GC.out _ s.b
        refine (implDiv_any i j _ _ W s.vP s.vQ BD.out.1 HJ0.out BD.out.2.1 BD.out.2.2.2.1 gc2 gc1).mono ?_
        rintro e w' ⟨v, rfl, hva, hb⟩
        obtain ⟨n, a, k, c, rfl⟩ := hva.parts
        exact ⟨n, a, k, c, rfl, hva, h.call hb hva⟩)
      have IMUL : Hid (∀ v oa W, Rx W8 (some (v, dvF i j)) oa W → Calls Tryz.prog 10 #[v, .agg #[.int .i64 2, .bool n6, .slice a6 k6 c6, .int .u64 0, .string ByteArray.empty, .slice none 0 0]] W fun e w' => ∃ n a k c, e = .returned (.agg #[.int .i64 2, .bool n, .slice a k c, .int .u64 0, .string ByteArray.empty, .slice none 0 0]) ∧ Va w' w'.heap.size (.agg #[.int .i64 2, .bool n, .slice a k c, .int .u64 0, .string ByteArray.empty, .slice none 0 0]) (dvF i j * j) ∧ Rx W8 (some (.agg #[.int .i64 2, .bool n, .slice a k c, .int .u64 0, .string ByteArray.empty, .slice none 0 0], dvF i j * j)) oa w') := Lib.hid (by
        intro v oa W h
        have s := ST8.out.below h.b
        have hv := h.2.1 _ _ rfl
        obtain ⟨gc1, gc2, gc3, gc4⟩ := GC.out _ s.b
        refine (implMul_any (dvF i j) j v _ W hv s.vQ BD.out.2.2.2.1 BD.out.2.2.2.2.2 BD.out.2.2.2.2.1 (.inr BD.out.2.1) gc4 gc3).mono ?_
        rintro e w' ⟨v, rfl, hva, hb⟩
        obtain ⟨n, a, k, c, rfl⟩ := hva.parts
        exact ⟨n, a, k, c, rfl, hva, h.call hb hva⟩)
      have IADD : Hid (∀ v oa W, Rx W8 (some (v, dvF i j * j)) oa W → Calls Tryz.prog 9 #[v, .agg #[.int .i64 2, .bool n7, .slice a7 k7 c7, .int .u64 0, .string ByteArray.empty, .slice none 0 0]] W fun e w' => ∃ n a k c, e = .returned (.agg #[.int .i64 2, .bool n, .slice a k c, .int .u64 0, .string ByteArray.empty, .slice none 0 0]) ∧ Va w' w'.heap.size (.agg #[.int .i64 2, .bool n, .slice a k c, .int .u64 0, .string ByteArray.empty, .slice none 0 0]) i ∧ Rx W8 (some (.agg #[.int .i64 2, .bool n, .slice a k c, .int .u64 0, .string ByteArray.empty, .slice none 0 0], i)) oa w') := Lib.hid (by
        intro v oa W h
        have hv := h.2.1 _ _ rfl
        have hr : (dvF i j * j + mdF i j).natAbs < lim := by rw [dvF_mdF]; have := BD.out.1; omega
        refine (implAdd_any (dvF i j * j) (mdF i j) v _ W hv ((VL8.out.below h.b).more h.b.size) BD.out.2.2.2.2.1 BD.out.2.2.1 hr).mono ?_
        rintro e w' ⟨v, rfl, hva, hb⟩
        obtain ⟨n, a, k, c, rfl⟩ := hva.parts
        rw [dvF_mdF] at hva
        exact ⟨n, a, k, c, rfl, hva, h.call hb hva⟩)
      clear hv7 hb7 hal CMD ST7 p0 p1 p2 p3 p4 p5 q0 q1 q2 q3 q4 q5 pl ql GC
      go_upto_region 8 with fail
      rw [← hW8, ← hbl]
      clear hW8 hbl
      have HS : Hid (Rx W8 none none W8) := Lib.hid (Rx.start W8)
      obtain ⟨⟨p0, p1, p2, p3, p4, p5⟩, ⟨q0, q1, q2, q3, q4, q5⟩, ⟨r0, r1, r2, r3, r4, r5⟩⟩ := KEEP.out _ HS.out.b
      go_upto_region 8 with fail
      go_cut [14] from 45 to 51 (fun x14 wx => ∃ (ba : Nat) (n8 : Bool) (a8 : Option Addr) (k8 c8 : Nat), x14 = .pointer (some ⟨ba, 0, none⟩) ∧ RxFin W8 i ba n8 a8 k8 c8 wx)
      case first =>
        go_region_held3 (fun w' => (w'.cell? ⟨bp, 0, none⟩ = some (.int .i64 2) ∧ w'.cell? ⟨bp, 1, none⟩ = some (.bool n2) ∧ w'.cell? ⟨bp, 2, none⟩ = some (.slice a2 k2 c2) ∧ w'.cell? ⟨bp, 3, none⟩ = some (.int .u64 0) ∧ w'.cell? ⟨bp, 4, none⟩ = some (.string ByteArray.empty) ∧ w'.cell? ⟨bp, 5, none⟩ = some (.slice none 0 0)) ∧ (w'.cell? ⟨bq, 0, none⟩ = some (.int .i64 2) ∧ w'.cell? ⟨bq, 1, none⟩ = some (.bool n6) ∧ w'.cell? ⟨bq, 2, none⟩ = some (.slice a6 k6 c6) ∧ w'.cell? ⟨bq, 3, none⟩ = some (.int .u64 0) ∧ w'.cell? ⟨bq, 4, none⟩ = some (.string ByteArray.empty) ∧ w'.cell? ⟨bq, 5, none⟩ = some (.slice none 0 0)) ∧ (w'.cell? ⟨bl, 0, none⟩ = some (.int .i64 2) ∧ w'.cell? ⟨bl, 1, none⟩ = some (.bool n7) ∧ w'.cell? ⟨bl, 2, none⟩ = some (.slice a7 k7 c7) ∧ w'.cell? ⟨bl, 3, none⟩ = some (.int .u64 0) ∧ w'.cell? ⟨bl, 4, none⟩ = some (.string ByteArray.empty) ∧ w'.cell? ⟨bl, 5, none⟩ = some (.slice none 0 0))) (first | (refine ⟨⟨?_, ?_, ?_, ?_, ?_, ?_⟩, ⟨?_, ?_, ?_, ?_, ?_, ?_⟩, ⟨?_, ?_, ?_, ?_, ?_, ?_⟩⟩ <;> with_reducible assumption) | (with_reducible exact KEEP.out _ HS.out.b) | (with_reducible exact KEEP.out _ HS.out.drew.b) | ((conv in World.setCell _ _ _ => skip); with_reducible exact KEEP.out _ (HS.out.storedB _ _ _ _ _ _)) | (with_reducible exact KEEP.out _ (HS.out.allocB _ _)) | (with_reducible exact KEEP.out _ (Below.drew (HS.out.allocB _ _)))) (first
          | (go_at_call 11; with_reducible refine (IDIV.out _ _ (by first | (with_reducible exact HS.out) | (with_reducible exact HS.out.drew) | (with_reducible exact HS.out.alloc) | (with_reducible exact HS.out.alloc.drew) | (with_reducible exact HS.out.drew.alloc))).mono ?_; rintro e w9 ⟨nd, ad, kd, cd, rfl, hv, hs⟩; have HS := Lib.hid hs; obtain ⟨⟨p0, p1, p2, p3, p4, p5⟩, ⟨q0, q1, q2, q3, q4, q5⟩, ⟨r0, r1, r2, r3, r4, r5⟩⟩ := KEEP.out _ hs.b; clear hv hs)
          | (go_at_call 10; with_reducible refine (IMUL.out _ _ _ (by first | (with_reducible exact HS.out) | (with_reducible exact HS.out.drew) | (with_reducible exact HS.out.alloc) | (with_reducible exact HS.out.alloc.drew) | (with_reducible exact HS.out.drew.alloc))).mono ?_; rintro e w10 ⟨nm, am, km, cm, rfl, hv, hs⟩; have HS := Lib.hid hs; obtain ⟨⟨p0, p1, p2, p3, p4, p5⟩, ⟨q0, q1, q2, q3, q4, q5⟩, ⟨r0, r1, r2, r3, r4, r5⟩⟩ := KEEP.out _ hs.b; clear hv hs)
          | (go_at_call 9; with_reducible refine (IADD.out _ _ _ (by first | (with_reducible exact HS.out) | (with_reducible exact HS.out.drew) | (with_reducible exact HS.out.alloc) | (with_reducible exact HS.out.alloc.drew) | (with_reducible exact HS.out.drew.alloc))).mono ?_; rintro e w11 ⟨ns, as_, ks, cs, rfl, hv, hs⟩; (try (obtain ⟨ba, hba⟩ := Rx.name hs; (first | (rw [hba] at hs ⊢) | (rw [show W8.drew.heap.size = W8.heap.size from rfl] at hba hs; rw [hba] at hs ⊢)); clear hba)); have HS := Lib.hid hs; (try (obtain ⟨⟨z0, z1, z2, z3, z4, z5⟩, ⟨g0, g1, g2, g3, g4, g5⟩, za⟩ := Rx.zero hs)); obtain ⟨⟨p0, p1, p2, p3, p4, p5⟩, ⟨q0, q1, q2, q3, q4, q5⟩, ⟨r0, r1, r2, r3, r4, r5⟩⟩ := KEEP.out _ hs.b; clear hv hs))
        all_goals (go_wp2_with fail; go_meet)
        all_goals (first | ((conv in World.setCell _ _ _ => skip); exact ⟨_, _, _, _, _, rfl, HS.out.stored⟩) | exact ⟨_, _, _, _, _, rfl, HS.out.laid⟩)
      obtain ⟨ba, n8, a8, k8, c8, rfl, hrx⟩ := hcut
      obtain ⟨hrb, hra, hrk, hrv⟩ := hrx
      have ST9 := Lib.hid (ST8.out.below hrb)
      have VL9 := Lib.hid ((VL8.out.below hrb).more hrb.size)
      have BL9 := Lib.hid (BL8.out.1.below hrb BL8.out.1.lt)
      have BA9 := Lib.hid hrk
      have VA9 := Lib.hid hrv
      have COF := Lib.hid (of_val (mdF i j) n7 a7 k7 c7 wc VL9.out BD.out.2.2.1)
      clear hrb hra hrk hrv p0 p1 p2 p3 p4 p5 q0 q1 q2 q3 q4 q5 r0 r1 r2 r3 r4 r5 HS IDIV IMUL IADD KEEP ST8 VL8 BL8
      obtain ⟨r0, r1, r2, r3, r4, r5⟩ := val_cells BL9.out
      go_wp2_with fail
      refine COF.out.mono ?_
      rintro e w10 ⟨nr, ar, kr, cr, rfl, hsr, hbr⟩
      obtain ⟨W10, hW10⟩ : ∃ W10, W10 = w10.alloc (.cells #[.bool nr, .slice ar kr cr] 24) := ⟨_, rfl⟩
      obtain ⟨br, hbrr⟩ : ∃ br, br = w10.heap.size := ⟨_, rfl⟩
      have hal : Below w10.heap.size w10 W10 := by rw [hW10]; exact (Below.refl _ _).alloc (Nat.le_refl _) _
      have hbt : Below wc.heap.size wc W10 := hbr.trans (hal.mono hbr.size)
      have ST10 := Lib.hid (ST9.out.below hbt)
      have VL10 := Lib.hid ((VL9.out.below hbt).more hbt.size)
      have BL10 := Lib.hid (BL9.out.below hbt BL9.out.lt)
      have BA10 := Lib.hid (BA9.out.below hbt BA9.out.lt)
      have VA10 := Lib.hid ((VA9.out.below hbt).more hbt.size)
      have SR10 := Lib.hid ((hsr.below hal).more hal.size)
      have BR10 : Hid (Blk W10 br 24 [.bool nr, .slice ar kr cr]) := Lib.hid (by rw [hW10, hbrr]; exact Blk.new w10 _ _)
      clear hsr hbr hal hbt ST9 VL9 BL9 BA9 VA9 COF r0 r1 r2 r3 r4 r5
      go_upto_region 10 with fail
      rw [← hW10, ← hbrr]
      clear hW10 hbrr
      have HML := mdF_lt i j HJ0.out
      have HSG : Hid (mdF i j ≠ 0 → decide (mdF i j < 0) = decide (j < 0)) := Lib.hid (fun h => by
        have h1 := HML.1
        have h2 := HML.2.1
        have h3 := HJ0.out
        by_cases hj : j < 0
        · have := h2 hj; simp only [hj, decide_true, decide_eq_true_eq]; omega
        · have := h1 (by omega); simp only [hj, decide_false, decide_eq_false_iff_not]; omega)
      have HCM : Hid (cmpI ((mdF i j).natAbs : Int) (j.natAbs : Int) = -1) := Lib.hid (by unfold cmpI; rw [if_pos (by have := HML.2.2; omega)])
      have OFR : Hid (∀ o2 W, Dx W10 (mdF i j) j none o2 W → Calls Tryz.prog 12 #[.bool false, .slice ar kr cr] W fun e w' => ∃ n a k c, e = .returned (.agg #[.bool n, .slice a k c]) ∧ Dx W10 (mdF i j) j (some (.agg #[.bool n, .slice a k c])) o2 w') := Lib.hid (by
        intro o2 W h
        refine (of_mag (mdF i j) nr ar kr cr W ((SR10.out.below h.b).more h.b.size) BD.out.2.2.1).mono ?_
        rintro e w' ⟨n, a, k, c, rfl, hs, hb⟩
        exact ⟨n, a, k, c, rfl, h.one hb hs⟩)
      have OFY : Hid (∀ o1 W, Dx W10 (mdF i j) j o1 none W → Calls Tryz.prog 12 #[.bool false, .slice a5 k5 c5] W fun e w' => ∃ n a k c, e = .returned (.agg #[.bool n, .slice a k c]) ∧ Dx W10 (mdF i j) j o1 (some (.agg #[.bool n, .slice a k c])) w') := Lib.hid (by
        intro o1 W h
        refine (of_mag j n5 a5 k5 c5 W ((ST10.out.sY.below h.b).more h.b.size) BD.out.2.2.2.2.2).mono ?_
        rintro e w' ⟨n, a, k, c, rfl, hs, hb⟩
        exact ⟨n, a, k, c, rfl, h.two hb hs⟩)
      have CMP : Hid (∀ v1 v2 W, Dx W10 (mdF i j) j (some v1) (some v2) W → Calls Tryz.prog 13 #[v1, v2] W fun e w' => e = .returned (.int .i64 (-1)) ∧ Below W10.heap.size W10 w') := Lib.hid (by
        intro v1 v2 W h
        refine (specCmp_any ((mdF i j).natAbs : Int) (j.natAbs : Int) v1 v2 W (h.2.1 _ rfl) (h.2.2 _ rfl) (by simpa using BD.out.2.2.1) (by simpa using BD.out.2.2.2.2.2)).mono ?_
        rintro e w' ⟨rfl, hb⟩
        rw [HCM.out]
        exact ⟨rfl, h.b.trans (hb.mono h.b.size)⟩)
      have KP : Hid (∀ W, Below W10.heap.size W10 W → _ ∧ _) := Lib.hid (fun W h => ⟨(sp_cells (BR10.out.below h BR10.out.lt)).2, (sp_cells (ST10.out.bY.below h ST10.out.bY.lt)).2⟩)
      have HD : Hid (Dx W10 (mdF i j) j none none W10) := Lib.hid (Dx.start _ _ _)
      have HB : Hid (Below W10.heap.size W10 W10) := Lib.hid (Below.refl _ _)
      obtain ⟨s1, t1⟩ := KP.out _ HB.out
      clear HML
      go_upto_region 10 with fail
      go_cut [16] from 57 to 64 (fun x16 wx => x16 = .bool true ∧ Below W10.heap.size W10 wx)
      case first =>
        go_region_held3 (fun w' => w'.cell? ⟨br, 1, none⟩ = some (.slice ar kr cr) ∧ w'.cell? ⟨by_, 1, none⟩ = some (.slice a5 k5 c5)) (first | (refine ⟨?_, ?_⟩ <;> with_reducible assumption) | (with_reducible exact KP.out _ HB.out) | (with_reducible exact KP.out _ (Below.drew HB.out))) (first
          | (go_at_call 12; with_reducible refine (OFR.out _ _ (by first | (with_reducible exact HD.out) | (with_reducible exact HD.out.drew))).mono ?_; rintro e w11 ⟨nd, ad, kd, cd, rfl, hs⟩; have HD := Lib.hid hs; have HB := Lib.hid hs.b; obtain ⟨s1, t1⟩ := KP.out _ hs.b; clear hs)
          | (go_at_call 12; with_reducible refine (OFY.out _ _ (by first | (with_reducible exact HD.out) | (with_reducible exact HD.out.drew))).mono ?_; rintro e w12 ⟨ne, ae, ke, ce, rfl, hs⟩; have HD := Lib.hid hs; have HB := Lib.hid hs.b; obtain ⟨s1, t1⟩ := KP.out _ hs.b; clear hs)
          | (go_at_call 13; with_reducible refine (CMP.out _ _ _ (by first | (with_reducible exact HD.out) | (with_reducible exact HD.out.drew))).mono ?_; rintro e w13 ⟨rfl, hb⟩; have HB := Lib.hid hb; obtain ⟨s1, t1⟩ := KP.out _ hb; clear hb))
        all_goals (go_wp2_with fail; go_meet)
        all_goals exact ⟨rfl, HB.out⟩
      obtain ⟨rfl, hbw⟩ := hcut
      have ST11 := Lib.hid (ST10.out.below hbw)
      have VL11 := Lib.hid ((VL10.out.below hbw).more hbw.size)
      have BL11 := Lib.hid (BL10.out.below hbw BL10.out.lt)
      have BA11 := Lib.hid (BA10.out.below hbw BA10.out.lt)
      have VA11 := Lib.hid ((VA10.out.below hbw).more hbw.size)
      have SR11 := Lib.hid ((SR10.out.below hbw).more hbw.size)
      have BR11 := Lib.hid (BR10.out.below hbw BR10.out.lt)
      have I1 := Lib.hid (is_any i _ _ wc VA11.out ST11.out.sX (by have := BD.out.1; omega))
      clear s1 t1 HB HD KP CMP OFR OFY HCM hbw ST10 VL10 BL10 BA10 VA10 SR10 BR10
      obtain ⟨z0, z1, z2, z3, z4, z5⟩ := val_cells BA11.out
      obtain ⟨x0, x1⟩ := sp_cells ST11.out.bX
      go_wp2_with fail
      refine I1.out.mono ?_
      rintro e w14 ⟨rfl, hb14⟩
      have ST14 := Lib.hid (ST11.out.below hb14)
      have VL14 := (VL11.out.below hb14).more hb14.size
      have BL14 := BL11.out.below hb14 BL11.out.lt
      have SR14 := (SR11.out.below hb14).more hb14.size
      have BR14 := Lib.hid (BR11.out.below hb14 BR11.out.lt)
      have I2 := Lib.hid (is_any (mdF i j) _ _ w14 VL14 SR14 BD.out.2.2.1)
      have SRH := Lib.hid SR14
      obtain ⟨r0, r1, r2, r3, r4, r5⟩ := val_cells BL14
      obtain ⟨s0, s1⟩ := sp_cells BR14.out
      clear z0 z1 z2 z3 z4 z5 x0 x1 hb14 VL14 BL14 SR14 ST11 VL11 BL11 BA11 VA11 SR11 BR11 I1
      go_wp2_with fail
      refine I2.out.mono ?_
      rintro e w15 ⟨rfl, hb15⟩
      have ST15 := Lib.hid (ST14.out.below hb15)
      have SR15 := Lib.hid ((SRH.out.below hb15).more hb15.size)
      have BR15 := Lib.hid (BR14.out.below hb15 BR14.out.lt)
      have I3 := Lib.hid (spZero_any (mdF i j) _ w15 SR15.out)
      clear r0 r1 r2 r3 r4 r5 s0 s1 hb15 ST14 SRH BR14 I2
      obtain ⟨s0, s1⟩ := sp_cells BR15.out
      go_wp2_with fail
      refine I3.out.mono ?_
      rintro e w16 ⟨rfl, hb16⟩
      have ST16 := Lib.hid (ST15.out.below hb16)
      have hbf := Lib.hid ((ST15.out.below hb16).b)
      have hn1 := SR15.out.neg
      have hn2 := ST15.out.sY.neg
      have BR16 := BR15.out.below hb16 BR15.out.lt
      clear s0 s1
      obtain ⟨s0, s1⟩ := sp_cells BR16
      obtain ⟨y0, y1⟩ := sp_cells ST16.out.bY
      have HNN : Hid (decide (mdF i j = 0) = false → nr = n5) := Lib.hid (fun h => by rw [hn1, hn2]; exact HSG.out (by simpa using h))
      clear hn1 hn2 hb16 BR16 ST15 SR15 BR15 I3 HSG ST16
      obtain ⟨T2, hT2⟩ : ∃ T2, T2 = decide (mdF i j = 0) := ⟨_, rfl⟩
      rw [← hT2] at HNN ⊢
      clear hT2
      cases T2
      · obtain rfl := HNN.out rfl
        cases nr
        · go_wp2_with fail
          go_ret
          exact ⟨rfl, hbf.out⟩
        · go_wp2_with fail
          go_ret
          exact ⟨rfl, hbf.out⟩
      · go_wp2_with fail
        go_ret
        exact ⟨rfl, hbf.out⟩
    · clear ha hb hms hns hg0 hg3
      go_enter Tryz.func3, Tryz.ntmps3
      go_wp2_with fail
      go_ret
      exact ⟨rfl, Below.refl _ _⟩
  · clear ha hb hms hns hg0 hg3
    go_enter Tryz.func3, Tryz.ntmps3
    go_wp2_with fail
    go_ret
    exact ⟨rfl, Below.refl _ _⟩
end Go.Proofs.YtpcnmgldmnncoaaGreatDoor
