/- The law FnIntAdd. -/
import Derived.Test.YtkjijonndikaeaaImplAdd
import Derived.Test.YtkjijonndikaeaaSpecAdd2
import Derived.Test.YtkjijonndikaeaaSpecIs
import Derived.Test.YtkjijonndikaeaaRowSl
import Derived.Deep.RegionHeld3
namespace Go.Proofs.Ytkjijonndikaeaa
open Go.RowKit Dig
set_option linter.unusedVariables false
set_option linter.unusedSimpArgs false
set_option maxRecDepth 100000

theorem add_lim {i j : Int} (most : Nat) (hi : i.natAbs < 256 ^ most) (hj : j.natAbs < 256 ^ most) (hm : most ≤ 4095) : (i + j).natAbs < lim := by
  obtain ⟨k, hk⟩ : ∃ k, k + 1 = 8 * limW := ⟨4095, by rw [limW_eq]⟩
  have hk2 : k = 4095 := by rw [limW_eq] at hk; omega
  have h1 : i.natAbs < 256 ^ k := lt_pow_of hi (by omega)
  have h2 : j.natAbs < 256 ^ k := lt_pow_of hj (by omega)
  have h3 : lim = 256 ^ k * 256 := by unfold lim; rw [← hk, Nat.pow_succ]
  rw [h3]
  clear hi hj hk hk2 h3
  generalize 256 ^ k = x at *
  omega
set_option maxHeartbeats 2400000 in
theorem lawAdd (an bn : Bool) (a b : Value) (ms ns : List Nat) (w : World) (hms : ∀ x ∈ ms, x < 256) (hns : ∀ x ∈ ns, x < 256) (ha : Sl w w.heap.size a (ms.map bv)) (hb : Sl w w.heap.size b (ns.map bv)) (lm : ms.length ≤ maxLen) (ln : ns.length ≤ maxLen) :
    Calls Try.prog 4 #[.bool an, a, .bool bn, b] w fun e w' => e = .returned (.bool true) ∧ Below w.heap.size w w' := by
  simp only [maxLen] at lm ln
  obtain ⟨aa, ca, rfl, hca, _⟩ := id ha
  obtain ⟨ab, cb, rfl, hcb, _⟩ := id hb
  simp only [List.length_map] at ha hb hca hcb ⊢
  by_cases l1 : ms.length ≤ 2147483647
  · by_cases l2 : ns.length ≤ 2147483647
    · have WA := Lib.hid (lawsWhole_any an ms _ 400 w hms ha l1 (by omega))
      have WB : Hid (∀ W, Below w.heap.size w W → Calls Try.prog 6 #[.bool bn, .slice ab ns.length cb, .int .i64 400] W (PairPost 400 W)) := Lib.hid (fun W h => lawsWhole_any bn ns _ 400 W hns ((hb.below h).more h.size) l2 (by omega))
      clear ha hb hms hns
      go_enter Try.func4, Try.ntmps4
      go_wp2_with fail
      refine WA.out.mono ?_
      rintro e w1 ⟨i, n1, n2, a1, a2, k1, c1, k2, c2, hi, rfl, hx, hp, hb1⟩
      have HX := Lib.hid hx; have HP := Lib.hid hp; have HB1 := Lib.hid hb1; have HI := Lib.hid hi
      clear hx hp hb1 hi
      go_wp2_with fail
      have BA : Below w1.heap.size w1 ((w1.alloc (.cells #[.bool n1, .slice a1 k1 c1] 24)).alloc (.cells #[.int .i64 2, .bool n2, .slice a2 k2 c2, .int .u64 0, .string ByteArray.empty, .slice none 0 0] 28)) := ((Below.refl _ _).alloc (Nat.le_refl _) _).alloc (by simp) _
      have hXA : Blk ((w1.alloc (.cells #[.bool n1, .slice a1 k1 c1] 24)).alloc (.cells #[.int .i64 2, .bool n2, .slice a2 k2 c2, .int .u64 0, .string ByteArray.empty, .slice none 0 0] 28)) w1.heap.size 24 [.bool n1, .slice a1 k1 c1] := (Blk.new w1 _ [.bool n1, .slice a1 k1 c1]).alloc _
      have hPA : Blk ((w1.alloc (.cells #[.bool n1, .slice a1 k1 c1] 24)).alloc (.cells #[.int .i64 2, .bool n2, .slice a2 k2 c2, .int .u64 0, .string ByteArray.empty, .slice none 0 0] 28)) (w1.heap.size + 1) 28 [.int .i64 2, .bool n2, .slice a2 k2 c2, .int .u64 0, .string ByteArray.empty, .slice none 0 0] := by
        have := Blk.new (w1.alloc (.cells #[.bool n1, .slice a1 k1 c1] 24)) 28 [.int .i64 2, .bool n2, .slice a2 k2 c2, .int .u64 0, .string ByteArray.empty, .slice none 0 0]
        simpa using this
      have HBA := Lib.hid BA; have HXA := Lib.hid hXA; have HPA := Lib.hid hPA
      have WB1 := Lib.hid (WB.out _ (HB1.out.trans (BA.mono HB1.out.size)))
      clear BA hXA hPA
      refine WB1.out.mono ?_
      rintro e w2 ⟨j, n3, n4, a3, a4, k3, c3, k4, c4, hj, rfl, hy, hq, hb2⟩
      have h2 : Below w1.heap.size w1 w2 := HBA.out.trans (hb2.mono HBA.out.size)
      have hX2 := HXA.out.below hb2 HXA.out.lt
      have hP2 := HPA.out.below hb2 HPA.out.lt
      obtain ⟨Wb, hWb⟩ : ∃ Wb, Wb = (w2.alloc (.cells #[.bool n3, .slice a3 k3 c3] 24)).alloc (.cells #[.int .i64 2, .bool n4, .slice a4 k4 c4, .int .u64 0, .string ByteArray.empty, .slice none 0 0] 28) := ⟨_, rfl⟩
      have BB : Below w2.heap.size w2 Wb := by rw [hWb]; exact ((Below.refl _ _).alloc (Nat.le_refl _) _).alloc (by simp) _
      have hYB : Blk Wb w2.heap.size 24 [.bool n3, .slice a3 k3 c3] := by rw [hWb]; exact (Blk.new w2 _ [.bool n3, .slice a3 k3 c3]).alloc _
      have hQB : Blk Wb (w2.heap.size + 1) 28 [.int .i64 2, .bool n4, .slice a4 k4 c4, .int .u64 0, .string ByteArray.empty, .slice none 0 0] := by
        rw [hWb]
        have := Blk.new (w2.alloc (.cells #[.bool n3, .slice a3 k3 c3] 24)) 28 [.int .i64 2, .bool n4, .slice a4 k4 c4, .int .u64 0, .string ByteArray.empty, .slice none 0 0]
        simpa using this
      have hXB := hX2.below BB hX2.lt
      have hPB := hP2.below BB hP2.lt
      have h12 : Below w1.heap.size w1 Wb := h2.trans (BB.mono h2.size)
      have KEEP : Hid (∀ W, Below Wb.heap.size Wb W → (W.cell? ⟨w1.heap.size, 0, none⟩ = some (.bool n1) ∧ W.cell? ⟨w1.heap.size, 1, none⟩ = some (.slice a1 k1 c1)) ∧ (W.cell? ⟨w2.heap.size, 0, none⟩ = some (.bool n3) ∧ W.cell? ⟨w2.heap.size, 1, none⟩ = some (.slice a3 k3 c3)) ∧ _ ∧ _) := Lib.hid (fun W h => by
        have q1 := hXB.below h hXB.lt
        have q2 := hYB.below h hYB.lt
        exact ⟨⟨q1.cell 0 (by simp), q1.cell 1 (by simp)⟩, ⟨q2.cell 0 (by simp), q2.cell 1 (by simp)⟩, val_cells (hPB.below h hPB.lt), val_cells (hQB.below h hQB.lt)⟩)
      have FIN : Hid (∀ W, Below Wb.heap.size Wb W → Below w.heap.size w W) := Lib.hid (fun W h => HB1.out.trans ((h12.trans (h.mono h12.size)).mono HB1.out.size))
      have LI := lim_of i 400 HI.out (by omega)
      have LJ := lim_of j 400 hj (by omega)
      have LR : (i + j).natAbs < lim := add_lim 400 HI.out hj (by omega)
      have IOP : Hid (∀ W, Below Wb.heap.size Wb W → Calls Try.prog 11 #[.agg #[.int .i64 2, .bool n2, .slice a2 k2 c2, .int .u64 0, .string ByteArray.empty, .slice none 0 0], .agg #[.int .i64 2, .bool n4, .slice a4 k4 c4, .int .u64 0, .string ByteArray.empty, .slice none 0 0]] W fun e w' => ∃ n a k c, e = .returned (.agg #[.int .i64 2, .bool n, .slice a k c, .int .u64 0, .string ByteArray.empty, .slice none 0 0]) ∧ Va w' w'.heap.size (.agg #[.int .i64 2, .bool n, .slice a k c, .int .u64 0, .string ByteArray.empty, .slice none 0 0]) (i + j) ∧ Below Wb.heap.size Wb w') := Lib.hid (by
        intro W h
        have g := h12.trans (h.mono h12.size)
        have g2 := BB.trans (h.mono BB.size)
        refine (implAdd_any i j _ _ W ((HP.out.below g).more g.size) ((hq.below g2).more g2.size) LI LJ LR).mono ?_
        rintro e w' ⟨v, rfl, hva, hb⟩
        obtain ⟨n, a, k, c, rfl⟩ := hva.parts
        exact ⟨n, a, k, c, rfl, hva, h.trans (hb.mono h.size)⟩)
      have SOP : Hid (∀ W, Below Wb.heap.size Wb W → Calls Try.prog 12 #[.agg #[.bool n1, .slice a1 k1 c1], .agg #[.bool n3, .slice a3 k3 c3]] W fun e w' => ∃ n a k c, e = .returned (.agg #[.bool n, .slice a k c]) ∧ Sp w' w'.heap.size (.agg #[.bool n, .slice a k c]) (i + j) ∧ Below Wb.heap.size Wb w' ∧ (∀ v m, Va W W.heap.size v m → Va w' w'.heap.size v m)) := Lib.hid (by
        intro W h
        have g := h12.trans (h.mono h12.size)
        have g2 := BB.trans (h.mono BB.size)
        refine (specAdd_any i j _ _ W ((HX.out.below g).more g.size) ((hy.below g2).more g2.size) LI LJ).mono ?_
        rintro e w' ⟨v, rfl, hsp, hb⟩
        obtain ⟨n, a, k, c, rfl⟩ := hsp.form
        exact ⟨n, a, k, c, rfl, hsp, h.trans (hb.mono h.size), fun v m hv => (hv.below hb).more hb.size⟩)
      have IS : Hid (∀ W v x, Below Wb.heap.size Wb W → Va W W.heap.size v (i + j) → Sp W W.heap.size x (i + j) → Calls Try.prog 10 #[v, x] W fun e w' => e = .returned (.bool true) ∧ Below Wb.heap.size Wb w') := Lib.hid (by
        intro W v x h hv hx
        refine (is_any _ v x W hv hx LR).mono ?_
        rintro e w' ⟨rfl, hb⟩
        exact ⟨rfl, h.trans (hb.mono h.size)⟩)
      have HB : Hid (Below Wb.heap.size Wb Wb) := Below.refl _ _
      have HD : Hid (Below Wb.heap.size Wb Wb.drew) := (Below.refl _ _).drew
      obtain ⟨⟨x0, x1⟩, ⟨y0, y1⟩, ⟨p0, p1, p2, p3, p4, p5⟩, ⟨r0, r1, r2, r3, r4, r5⟩⟩ := KEEP.out _ HB.out
      have p0' := hP2.cell 0 (by simp)
      have p1' := hP2.cell 1 (by simp)
      have p2' := hP2.cell 2 (by simp)
      have p3' := hP2.cell 3 (by simp)
      have p4' := hP2.cell 4 (by simp)
      have p5' := hP2.cell 5 (by simp)
      have x0' := hX2.cell 0 (by simp)
      have x1' := hX2.cell 1 (by simp)
      simp only [List.getD_cons_zero, List.getD_cons_succ] at p0' p1' p2' p3' p4' p5' x0' x1'
      have lw1 : w1.heap.size + 1 < w2.heap.size := hP2.lt
      have lw2 : w1.heap.size + 1 < w2.heap.size + 1 := by omega
      have lw3 : ¬ w1.heap.size + 1 = w2.heap.size := by omega
      have lw4 : ¬ w1.heap.size + 1 = w2.heap.size + 1 := by omega
      have lw5 : ¬ w1.heap.size = w2.heap.size := by omega
      have lw6 : w1.heap.size < w2.heap.size := by omega
      have lw7 : ¬ w1.heap.size = w2.heap.size + 1 := by omega
      clear h2 hX2 hP2 BB hYB hQB hXB hPB h12 hj hy hq hb2 HX HP HXA HPA HBA WB1 WB WA HI LI LJ LR HB
      subst hWb
      go_wp2_with fail
      go_region_held3 (fun w' => (w'.cell? ⟨w1.heap.size, 0, none⟩ = some (.bool n1) ∧ w'.cell? ⟨w1.heap.size, 1, none⟩ = some (.slice a1 k1 c1)) ∧ (w'.cell? ⟨w2.heap.size, 0, none⟩ = some (.bool n3) ∧ w'.cell? ⟨w2.heap.size, 1, none⟩ = some (.slice a3 k3 c3)) ∧ (w'.cell? ⟨w1.heap.size + 1, 0, none⟩ = some (.int .i64 2) ∧ w'.cell? ⟨w1.heap.size + 1, 1, none⟩ = some (.bool n2) ∧ w'.cell? ⟨w1.heap.size + 1, 2, none⟩ = some (.slice a2 k2 c2) ∧ w'.cell? ⟨w1.heap.size + 1, 3, none⟩ = some (.int .u64 0) ∧ w'.cell? ⟨w1.heap.size + 1, 4, none⟩ = some (.string ByteArray.empty) ∧ w'.cell? ⟨w1.heap.size + 1, 5, none⟩ = some (.slice none 0 0)) ∧ (w'.cell? ⟨w2.heap.size + 1, 0, none⟩ = some (.int .i64 2) ∧ w'.cell? ⟨w2.heap.size + 1, 1, none⟩ = some (.bool n4) ∧ w'.cell? ⟨w2.heap.size + 1, 2, none⟩ = some (.slice a4 k4 c4) ∧ w'.cell? ⟨w2.heap.size + 1, 3, none⟩ = some (.int .u64 0) ∧ w'.cell? ⟨w2.heap.size + 1, 4, none⟩ = some (.string ByteArray.empty) ∧ w'.cell? ⟨w2.heap.size + 1, 5, none⟩ = some (.slice none 0 0))) (refine ⟨⟨?_, ?_⟩, ⟨?_, ?_⟩, ⟨?_, ?_, ?_, ?_, ?_, ?_⟩, ⟨?_, ?_, ?_, ?_, ?_, ?_⟩⟩ <;> assumption) (first
        | (go_at_call 11; (with_reducible refine (IOP.out _ (by first | exact HB.out | (with_unfolding_all exact HD.out))).mono ?_); rintro e w4 ⟨nr, ar, kr, cr, rfl, hv, hb⟩; have HV := Lib.hid hv; have HB := Lib.hid hb; obtain ⟨⟨x0, x1⟩, ⟨y0, y1⟩, ⟨p0, p1, p2, p3, p4, p5⟩, ⟨r0, r1, r2, r3, r4, r5⟩⟩ := KEEP.out _ hb; clear hv hb)
        | (go_at_call 12; (with_reducible refine (SOP.out _ (by first | exact HB.out | (with_unfolding_all exact HD.out))).mono ?_); rintro e w5 ⟨ns, as_, ks, cs, rfl, hs, hb, hcar⟩; have HS := Lib.hid hs; have HB := Lib.hid hb; have HV := Lib.hid (hcar _ _ HV.out); obtain ⟨⟨x0, x1⟩, ⟨y0, y1⟩, ⟨p0, p1, p2, p3, p4, p5⟩, ⟨r0, r1, r2, r3, r4, r5⟩⟩ := KEEP.out _ hb; clear hs hb hcar)
        | (go_at_call 10; refine (IS.out _ _ _ HB.out HV.out HS.out).mono ?_; rintro e w6 ⟨rfl, hb⟩; have HE := Lib.hid (FIN.out _ hb); obtain ⟨⟨x0, x1⟩, ⟨y0, y1⟩, ⟨p0, p1, p2, p3, p4, p5⟩, ⟨r0, r1, r2, r3, r4, r5⟩⟩ := KEEP.out _ hb; clear hb))
      all_goals
        go_wp2_with fail
        go_ret
        exact ⟨rfl, HE.out⟩
    · clear ha hb hms hns
      go_enter Try.func4, Try.ntmps4
      go_wp2_with fail
      go_ret
      exact ⟨rfl, Below.refl _ _⟩
  · clear ha hb hms hns
    go_enter Try.func4, Try.ntmps4
    go_wp2_with fail
    go_ret
    exact ⟨rfl, Below.refl _ _⟩
end Go.Proofs.Ytkjijonndikaeaa
