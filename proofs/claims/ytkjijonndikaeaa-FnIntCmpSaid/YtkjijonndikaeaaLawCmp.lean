/- The law FnIntCmp. -/
import Derived.Test.YtkjijonndikaeaaCmp6
namespace Go.Proofs.Ytkjijonndikaeaa
open Go.RowKit Dig
set_option linter.unusedVariables false
set_option linter.unusedSimpArgs false
set_option maxRecDepth 100000

theorem lim_of (i : Int) (m : Nat) (h : i.natAbs < 256 ^ m) (hm : m ≤ 4096) : i.natAbs < lim := lt_lim h hm
theorem row_sl {w : World} {a : Option Addr} {len cap : Nat} {zs : List Int} (h : (a = none ∧ len = 0 ∧ cap = 0 ∧ zs = []) ∨ ∃ x, a = some x ∧ len ≤ cap ∧ cap ≤ maxLen ∧ zs.length = cap ∧ (∀ i, i < zs.length → w.cell? (x.add i) = some (.int .u8 (zs.getD i 0))) ∧ ∀ n ∈ zs, (Lit.int .u8 n).wf = true) :
    ∃ ms : List Nat, (∀ x ∈ ms, x < 256) ∧ ms.length = len ∧ len ≤ maxLen ∧ Sl w w.heap.size (.slice a len cap) (ms.map bv) := by
  rcases h with ⟨rfl, rfl, rfl, rfl⟩ | ⟨x, rfl, hl, hm, hz, hc, hwf⟩
  · exact ⟨[], by simp, rfl, by simp [maxLen], Sl.nil _ _⟩
  · have hb : ∀ n ∈ zs, 0 ≤ n ∧ n < 256 := by
      intro n hn
      have := hwf n hn
      simp only [Lit.wf, Bool.and_eq_true, decide_eq_true_eq] at this
      have e1 : IntKind.u8.min = 0 := by decide
      have e2 : IntKind.u8.max = 255 := by decide
      omega
    refine ⟨(zs.take len).map Int.toNat, ?_, by simp; omega, by omega, ?_⟩
    · intro u hu
      obtain ⟨n, hn, rfl⟩ := List.mem_map.1 hu
      have := hb n (List.mem_of_mem_take hn)
      omega
    · refine ⟨some x, cap, by simp; omega, by simp; omega, fun hne => ?_⟩
      have hpos : 0 < len := by
        rcases Nat.eq_zero_or_pos len with h0 | h0
        · subst h0; simp at hne
        · exact h0
      have h0 := hc 0 (by omega)
      have hx : x = ⟨x.block, x.off, none⟩ := by
        obtain ⟨b, o, s⟩ := x
        cases s with
        | none => rfl
        | some s =>
          exfalso
          simp only [Addr.add, if_true] at h0
          unfold World.cell? at h0
          split at h0
          · simp at h0
          · cases h0
      refine ⟨x.block, x.off, by rw [← hx], ?_, ?_⟩
      · rw [show x.add 0 = x from by simp [Addr.add]] at h0
        rw [hx] at h0
        exact lt_of_cell h0
      · intro i hi
        simp only [List.length_map, List.length_take] at hi
        have hi2 : i < len := by omega
        have := hc i (by omega)
        rw [hx, add_zero_off] at this
        rw [this]
        have hzi : i < zs.length := by omega
        have hbi := hb zs[i] (List.getElem_mem hzi)
        simp [List.getD_eq_getElem?_getD, List.getElem?_eq_getElem hzi, List.getElem?_take, hi2, bv]
        omega

theorem lawsSign_any (r : Int) (w : World) (h1 : -1 ≤ r) (h2 : r ≤ 1) : Calls Try.prog 8 #[.int .i64 r] w fun e w' => e = .returned (.int .i64 r) ∧ w = w' := by
  have h3 : r = -1 ∨ r = 0 ∨ r = 1 := by omega
  clear h1 h2
  rcases h3 with rfl | rfl | rfl <;>
  · go_enter Try.func8, Try.ntmps8
    go_wp2
    go_ret
    exact ⟨rfl, rfl⟩
set_option maxHeartbeats 6400000 in
theorem law10 (an bn : Bool) (a b : Value) (ms ns : List Nat) (w : World) (hms : ∀ x ∈ ms, x < 256) (hns : ∀ x ∈ ns, x < 256) (ha : Sl w w.heap.size a (ms.map bv)) (hb : Sl w w.heap.size b (ns.map bv)) (lm : ms.length ≤ maxLen) (ln : ns.length ≤ maxLen) :
    Calls Try.prog 3 #[.bool an, a, .bool bn, b] w fun e w' => e = .returned (.bool true) ∧ Below w.heap.size w w' := by
  simp only [maxLen] at lm ln
  obtain ⟨aa, ca, rfl, hca, _⟩ := id ha
  obtain ⟨ab, cb, rfl, hcb, _⟩ := id hb
  simp only [List.length_map] at ha hb hca hcb ⊢
  by_cases l1 : ms.length ≤ 2147483647
  · by_cases l2 : ns.length ≤ 2147483647
    · have WA := Lib.hid (lawsWhole_any an ms _ 400 w hms ha l1 (by omega))
      have WB : Hid (∀ W, Below w.heap.size w W → Calls Try.prog 6 #[.bool bn, .slice ab ns.length cb, .int .i64 400] W (PairPost 400 W)) := Lib.hid (fun W h => lawsWhole_any bn ns _ 400 W hns ((hb.below h).more h.size) l2 (by omega))
      clear ha hb hms hns
      go_enter Try.func3, Try.ntmps3
      go_wp2_with fail
      refine WA.out.mono ?_
      rintro e w1 ⟨i, n1, n2, a1, a2, k1, c1, k2, c2, hi, rfl, hx, hp, hb1⟩
      have HX := Lib.hid hx; have HP := Lib.hid hp; have HB1 := Lib.hid hb1; have HI := Lib.hid hi
      clear hx hp hb1 hi
      go_wp2_with fail
      have BA : Below w1.heap.size w1 ((w1.alloc (.cells #[.bool n1, .slice a1 k1 c1] 24)).alloc (.cells #[.int .i64 2, .bool n2, .slice a2 k2 c2, .int .u64 0, .string ByteArray.empty, .slice none 0 0] 28)) := ((Below.refl _ _).alloc (Nat.le_refl _) _).alloc (by simp) _
      have hXA : Blk ((w1.alloc (.cells #[.bool n1, .slice a1 k1 c1] 24)).alloc (.cells #[.int .i64 2, .bool n2, .slice a2 k2 c2, .int .u64 0, .string ByteArray.empty, .slice none 0 0] 28)) w1.heap.size 24 [.bool n1, .slice a1 k1 c1] := (Blk.new w1 _ [.bool n1, .slice a1 k1 c1]).alloc _
      have hPA : Blk ((w1.alloc (.cells #[.bool n1, .slice a1 k1 c1] 24)).alloc (.cells #[.int .i64 2, .bool n2, .slice a2 k2 c2, .int .u64 0, .string ByteArray.empty, .slice none 0 0] 28)) (w1.heap.size + 1) 28 [.int .i64 2, .bool n2, .slice a2 k2 c2, .int .u64 0, .string ByteArray.empty, .slice none 0 0] := by
        have := Blk.new (w1.alloc (.cells #[.bool n1, .slice a1 k1 c1] 24)) 28 [.int .i64 2, .bool n2, .slice a2 k2 c2, .int .u64 0, .string ByteArray.empty, .slice none 0 0]
        simpa using this
      have HBA := Lib.hid BA; have HXA := Lib.hid hXA; have HPA := Lib.hid hPA
      have WB1 := Lib.hid (WB.out _ (HB1.out.trans (BA.mono HB1.out.size)))
      clear BA hXA hPA
      refine WB1.out.mono ?_
      rintro e w2 ⟨j, n3, n4, a3, a4, k3, c3, k4, c4, hj, rfl, hy, hq, hb2⟩
      have h2 : Below w1.heap.size w1 w2 := HBA.out.trans (hb2.mono HBA.out.size)
      have hX2 := HXA.out.below hb2 HXA.out.lt
      have hP2 := HPA.out.below hb2 HPA.out.lt
      have BB : Below w2.heap.size w2 ((w2.alloc (.cells #[.bool n3, .slice a3 k3 c3] 24)).alloc (.cells #[.int .i64 2, .bool n4, .slice a4 k4 c4, .int .u64 0, .string ByteArray.empty, .slice none 0 0] 28)) := ((Below.refl _ _).alloc (Nat.le_refl _) _).alloc (by simp) _
      have hYB : Blk ((w2.alloc (.cells #[.bool n3, .slice a3 k3 c3] 24)).alloc (.cells #[.int .i64 2, .bool n4, .slice a4 k4 c4, .int .u64 0, .string ByteArray.empty, .slice none 0 0] 28)) w2.heap.size 24 [.bool n3, .slice a3 k3 c3] := (Blk.new w2 _ [.bool n3, .slice a3 k3 c3]).alloc _
      have hXB := hX2.below BB hX2.lt
      have h12 : Below w1.heap.size w1 ((w2.alloc (.cells #[.bool n3, .slice a3 k3 c3] 24)).alloc (.cells #[.int .i64 2, .bool n4, .slice a4 k4 c4, .int .u64 0, .string ByteArray.empty, .slice none 0 0] 28)) := h2.trans (BB.mono h2.size)
      have C1 := Lib.hid (implCmp_any i j _ _ ((w2.alloc (.cells #[.bool n3, .slice a3 k3 c3] 24)).alloc (.cells #[.int .i64 2, .bool n4, .slice a4 k4 c4, .int .u64 0, .string ByteArray.empty, .slice none 0 0] 28)) ((HP.out.below h12).more h12.size) ((hq.below BB).more BB.size) (lim_of i 400 HI.out (by omega)) (lim_of j 400 hj (by omega)))
      have C2 : Hid (∀ W, Below ((w2.alloc (.cells #[.bool n3, .slice a3 k3 c3] 24)).alloc (.cells #[.int .i64 2, .bool n4, .slice a4 k4 c4, .int .u64 0, .string ByteArray.empty, .slice none 0 0] 28)).heap.size ((w2.alloc (.cells #[.bool n3, .slice a3 k3 c3] 24)).alloc (.cells #[.int .i64 2, .bool n4, .slice a4 k4 c4, .int .u64 0, .string ByteArray.empty, .slice none 0 0] 28)) W → Calls Try.prog 9 #[.agg #[.bool n1, .slice a1 k1 c1], .agg #[.bool n3, .slice a3 k3 c3]] W (IntPost (cmpI i j) W)) := Lib.hid (fun W h => by
        have h1 := h12.trans (h.mono h12.size)
        have h3 := BB.trans (h.mono BB.size)
        exact specCmp_any i j _ _ W ((HX.out.below h1).more h1.size) ((hy.below h3).more h3.size) (lim_of i 400 HI.out (by omega)) (lim_of j 400 hj (by omega)))
      have KEEP : Hid (∀ W, Below ((w2.alloc (.cells #[.bool n3, .slice a3 k3 c3] 24)).alloc (.cells #[.int .i64 2, .bool n4, .slice a4 k4 c4, .int .u64 0, .string ByteArray.empty, .slice none 0 0] 28)).heap.size ((w2.alloc (.cells #[.bool n3, .slice a3 k3 c3] 24)).alloc (.cells #[.int .i64 2, .bool n4, .slice a4 k4 c4, .int .u64 0, .string ByteArray.empty, .slice none 0 0] 28)) W → Below w.heap.size w W ∧ (W.cell? ⟨w1.heap.size, 0, none⟩ = some (.bool n1) ∧ W.cell? ⟨w1.heap.size, 1, none⟩ = some (.slice a1 k1 c1)) ∧ (W.cell? ⟨w2.heap.size, 0, none⟩ = some (.bool n3) ∧ W.cell? ⟨w2.heap.size, 1, none⟩ = some (.slice a3 k3 c3))) := Lib.hid (fun W h => by
        have q1 := hXB.below h hXB.lt
        have q2 := hYB.below h hYB.lt
        have h1 := h12.trans (h.mono h12.size)
        exact ⟨HB1.out.trans (h1.mono HB1.out.size), ⟨q1.cell 0 (by simp), q1.cell 1 (by simp)⟩, ⟨q2.cell 0 (by simp), q2.cell 1 (by simp)⟩⟩)
      have p0 := hP2.cell 0 (by simp)
      have p1 := hP2.cell 1 (by simp)
      have p2 := hP2.cell 2 (by simp)
      have p3 := hP2.cell 3 (by simp)
      have p4 := hP2.cell 4 (by simp)
      have p5 := hP2.cell 5 (by simp)
      simp only [List.getD_cons_zero, List.getD_cons_succ] at p0 p1 p2 p3 p4 p5
      have lw1 : w1.heap.size + 1 < w2.heap.size := hP2.lt
      have lw2 : w1.heap.size + 1 < w2.heap.size + 1 := by omega
      have lw3 : ¬ w1.heap.size + 1 = w2.heap.size := by omega
      have lw4 : ¬ w1.heap.size + 1 = w2.heap.size + 1 := by omega
      have lw5 : ¬ w1.heap.size = w2.heap.size := by omega
      have STEP : Hid (∀ v1 v2 : World, Below ((w2.alloc (.cells #[.bool n3, .slice a3 k3 c3] 24)).alloc (.cells #[.int .i64 2, .bool n4, .slice a4 k4 c4, .int .u64 0, .string ByteArray.empty, .slice none 0 0] 28)).heap.size ((w2.alloc (.cells #[.bool n3, .slice a3 k3 c3] 24)).alloc (.cells #[.int .i64 2, .bool n4, .slice a4 k4 c4, .int .u64 0, .string ByteArray.empty, .slice none 0 0] 28)) v1 → Below v1.heap.size v1 v2 → Below ((w2.alloc (.cells #[.bool n3, .slice a3 k3 c3] 24)).alloc (.cells #[.int .i64 2, .bool n4, .slice a4 k4 c4, .int .u64 0, .string ByteArray.empty, .slice none 0 0] 28)).heap.size ((w2.alloc (.cells #[.bool n3, .slice a3 k3 c3] 24)).alloc (.cells #[.int .i64 2, .bool n4, .slice a4 k4 c4, .int .u64 0, .string ByteArray.empty, .slice none 0 0] 28)) v2) := Lib.hid (fun v1 v2 h1 h2 => h1.trans (h2.mono h1.size))
      have hcr : -1 ≤ cmpI i j ∧ cmpI i j ≤ 1 := by unfold cmpI; split <;> (try split) <;> omega
      have SG := Lib.hid (fun W => lawsSign_any (cmpI i j) W hcr.1 hcr.2)
      generalize cmpI i j = r at *
      clear h2 hX2 hP2 BB hYB hXB h12 hj hy hq hb2 HX HP HXA HPA HBA WB1 WB WA HI hcr
      go_wp2_with fail
      refine C1.out.mono ?_
      rintro e w3 ⟨rfl, hb3⟩
      obtain ⟨_, ⟨x0, x1⟩, ⟨y0, y1⟩⟩ := KEEP.out _ hb3
      have HB := Lib.hid hb3
      have HD := Lib.hid hb3.drew
      clear hb3 C1
      go_wp2_with fail
      go_region_with (first
        | (go_at_call 8; refine (SG.out _).mono ?_; rintro e w4 ⟨rfl, rfl⟩)
        | (go_at_call 9; (first | refine (C2.out _ HD.out).mono ?_ | refine (C2.out _ HB.out).mono ?_); rintro e w4 ⟨rfl, hb4⟩; have HE := Lib.hid (STEP.out _ _ HD.out hb4); obtain ⟨_, ⟨x0, x1⟩, ⟨y0, y1⟩⟩ := KEEP.out _ HE.out; clear hb4))
      all_goals
        go_wp2_with fail
        go_ret
        exact ⟨rfl, (KEEP.out _ HE.out).1⟩
    · clear ha hb hms hns
      go_enter Try.func3, Try.ntmps3
      go_wp2_with fail
      go_ret
      exact ⟨rfl, Below.refl _ _⟩
  · clear ha hb hms hns
    go_enter Try.func3, Try.ntmps3
    go_wp2_with fail
    go_ret
    exact ⟨rfl, Below.refl _ _⟩
end Go.Proofs.Ytkjijonndikaeaa
