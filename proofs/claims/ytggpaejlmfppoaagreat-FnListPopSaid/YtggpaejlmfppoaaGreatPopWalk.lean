/- starlark.list_pop: the walk (printed by genpopwalk.py). -/
import Derived.Test.YtggpaejlmfppoaaGreatPopPop
import Derived.Deep.RegionLaw
namespace Go.Proofs.YtggpaejlmfppoaaGreat
open Go.RowKit Dig
set_option linter.unusedVariables false
set_option linter.unusedSimpArgs false
set_option maxRecDepth 1000000

set_option maxHeartbeats 6400000 in
theorem list_pop_any (bb : Nat) (nm : ByteArray) (kf lb g H : Nat) (xs ats : List Cel) (v : Value) (w : World) (hm : Meth w bb nm kf (.iface 40 (.pointer (some ⟨lb, 0, none⟩)))) (h : Lst w lb g xs.length xs) (hg : H ≤ g) (hlb : H ≤ lb) (ha : PArgs w v ats) (hxl : xs.length ≤ 1048576) :
    Calls Tryz.prog 42 #[.pointer none, .pointer (some ⟨bb, 0, none⟩), v, .slice none 0 0] w (PpPost xs ats lb g H w) := by
  obtain ⟨i0, hi0, hz0, hz1, hz2⟩ := info_parts info57
  have hta := assertListOk
  have HHb : Hid (H ≤ w.heap.size) := Lib.hid (by have := h.cells.2.2.2.2.1; omega)
  have HG := Lib.hid hg; have HLB := Lib.hid hlb
  have CR := Lib.hid ((receiver_any bb nm kf _ _ w hm).mono fun e w' h => (⟨h.1, h.2.symm⟩ : _ ∧ w = w'))
  have CL := Lib.hid ((listLen_any lb g xs.length xs w h).mono fun e w' h => (⟨h.1, h.2.symm⟩ : _ ∧ w = w'))
  obtain ⟨N, hN⟩ : ∃ N, N = xs.length := ⟨_, rfl⟩
  have HN0 := Lib.hid hN
  have FERR : Hid (∀ W q, Below w.heap.size w W → popAt ats N = none → PpPost xs ats lb g H w (.returned (.tuple #[.nilIface, .iface 185 (.pointer (some ⟨q, 0, none⟩))])) W) := Lib.hid (fun W q hb hp => ⟨hb.mono HHb.out, .inr ⟨by rw [← HN0.out]; exact hp, q, rfl⟩⟩)
  have HLw := Lib.hid h
  rw [← hN] at CL hxl HLw
  have HM := Lib.hid hm
  have HPA := Lib.hid ha
  obtain ⟨va, vn, vc, rfl⟩ := ha.form
  have hn1 : IntKind.i64.wrap ((N : Int) - 1) = (N : Int) - 1 := by rw [IntKind.wrap_i64]; omega
  obtain ⟨j0, hj0⟩ : ∃ j0, j0 = (N : Int) - 1 := ⟨_, rfl⟩
  have hn1 : IntKind.i64.wrap ((N : Int) - 1) = j0 := by rw [hj0]; exact hn1
  have HJ := Lib.hid hj0
  have hb1 : Below w.heap.size w (w.alloc (.cells #[.int .i64 j0] 3)) := (Below.refl _ _).alloc (Nat.le_refl _) _
  have hb2 : Below w.heap.size w ((w.alloc (.cells #[.int .i64 j0] 3)).alloc (.cells #[.iface 120 (.pointer (some ⟨w.heap.size, 0, none⟩))] 20)) := hb1.alloc hb1.size _
  obtain ⟨Wa, hWa⟩ : ∃ Wa, Wa = w.alloc (.cells #[.int .i64 j0] 3) := ⟨_, rfl⟩
  have CN := Lib.hid ((name_any bb nm kf _ (w.alloc (.cells #[.int .i64 j0] 3)) (hm.below hb1 hm.lt)).mono fun e w' h => (⟨h.1, h.2.symm⟩ : _ ∧ _ = w'))
  have UNP : Hid (Calls Tryz.prog 61 #[.string nm, .slice va vn vc, .slice none 0 0, .int .i64 0, .slice (some ⟨w.heap.size + 1, 0, none⟩) 1 1] ((w.alloc (.cells #[.int .i64 j0] 3)).alloc (.cells #[.iface 120 (.pointer (some ⟨w.heap.size, 0, none⟩))] 20)) (PuPost ats w.heap.size j0 w ((w.alloc (.cells #[.int .i64 j0] 3)).alloc (.cells #[.iface 120 (.pointer (some ⟨w.heap.size, 0, none⟩))] 20)))) := Lib.hid (by
    refine unpackPos_any nm _ ats w _ w.heap.size (w.heap.size + 1) j0 ha hb2 (Nat.le_refl _) ?_ ?_
    · have := Blk.new (w.alloc (.cells #[.int .i64 j0] 3)) 20 [.iface 120 (.pointer (some ⟨w.heap.size, 0, none⟩))]
      simpa using this
    · exact (Blk.new w 3 [.int .i64 j0]).alloc _)
  have RNG : Hid (∀ i, askJ ats j0 = some i → -9223372036854775808 ≤ i ∧ i ≤ 9223372036854775807) := Lib.hid (by
    intro i hi
    cases ats with
    | nil => simp [askJ] at hi; omega
    | cons x r =>
      simp only [askJ] at hi
      cases x with
      | int z =>
        simp only [placeOf] at hi
        split at hi
        · rename_i hf
          injection hi with hi
          subst hi
          unfold fits64 at hf
          simp at hf
          omega
        · cases hi
      | non => cases hi
      | boo b => cases hi
      | flt u => cases hi
      | str s => cases hi
      | byt s => cases hi)
  obtain ⟨nmPop, hnp⟩ : ∃ s : ByteArray, s = { data := #[112, 111, 112, 32, 102, 114, 111, 109] } := ⟨_, rfl⟩
  clear hm h hg hlb hb1 hb2 ha hN
  go_enter Tryz.func42, Tryz.ntmps42
  go_wp2_with fail
  refine CR.out.mono ?_
  rintro e w' ⟨rfl, rfl⟩
  go_wp2_with fail
  refine CL.out.mono ?_
  rintro e w'' ⟨rfl, rfl⟩
  clear CR CL
  go_wp2_with fail
  rw [hj0] at CN UNP RNG
  refine CN.out.mono ?_
  rintro e w3 ⟨rfl, hw3⟩
  subst hw3
  clear CN
  go_wp2_with fail
  refine UNP.out.mono ?_
  rintro e w1 (⟨i, has, rfl, hbi, hbw⟩ | ⟨has, q, rfl, hbw⟩)
  · obtain ⟨hr1, hr2⟩ := RNG.out i has
    have HAs := Lib.hid has; have HBw := Lib.hid hbw
    have HBi := Lib.hid hbi
    have c0 := hbi.cell 0 (by simp)
    have f0 := hbi.free 0
    have l0 := hbi.lt
    clear hbi hbw has UNP RNG
    by_cases hneg : i < 0
    · obtain ⟨m, hm⟩ : ∃ m : Int, m = i + (N : Int) := ⟨_, rfl⟩
      obtain rfl : i = m - (N : Int) := by omega
      clear hm
      by_cases hm0 : m < 0
      · have hle : ¬ (0 : Int) ≤ m := by omega
        have hwm : wrap64 m = m := by unfold wrap64; omega
        have hwm2 : IntKind.i64.wrap m = m := by rw [IntKind.wrap_i64]; omega
        clear hr1 hr2
        have HN : Hid (popAt ats N = none) := Lib.hid (by unfold popAt; rw [HAs.out]; simp only [Option.bind_some, popIdx]; rw [if_pos hneg, if_neg (by omega)])
        clear HM
        go_wp2_with fail
        refine (outOfRange_any _ _ _ _).mono ?_
        rintro e w3 ⟨q, rfl, hb3⟩
        have hbx := HBw.out.setCell (p := ⟨w.heap.size, 0, none⟩) (Nat.le_refl _) (.int .i64 m)
        have HB3 := Lib.hid (hbx.trans (hb3.mono hbx.size))
        clear hbx
        clear hb3
        go_wp2_with fail
        refine (nameErrP_any _ _ _).mono ?_
        rintro e w4 ⟨q2, rfl, hb4⟩
        have HB4 := Lib.hid (HB3.out.trans (hb4.mono HB3.out.size))
        clear hb4
        go_wp2_with fail
        go_ret2
        exact FERR.out _ _ HB4.out HN.out
      · obtain ⟨k, rfl⟩ : ∃ k : Nat, m = (k : Int) := ⟨m.toNat, by omega⟩
        have hkn : k < N := by omega
        have hge : ¬ (N : Int) ≤ (k : Int) := by omega
        have WK : Hid (∀ W2, w1.setCell ⟨w.heap.size, 0, none⟩ (.int .i64 (k : Int)) = W2 → Lst W2 lb g N xs ∧ Below w.heap.size w W2 ∧ (W2.cell? ⟨w.heap.size, 0, none⟩ = some (.int .i64 (k : Int)) ∧ W2.frozen? ⟨w.heap.size, 0, none⟩ = false ∧ w.heap.size < W2.heap.size)) := Lib.hid (by
          rintro W2 rfl
          have hb2 : Below w.heap.size w (w1.setCell ⟨w.heap.size, 0, none⟩ (.int .i64 (k : Int))) := HBw.out.setCell (p := ⟨w.heap.size, 0, none⟩) (Nat.le_refl _) _
          have hk := HBi.out.set 0 (.int .i64 (k : Int))
          exact ⟨HLw.out.below hb2, hb2, hk.cell 0 (by simp), hk.free 0, hk.lt⟩)
        clear hr1 hr2 hm0
        have HP : Hid (popAt ats N = some k) := Lib.hid (by unfold popAt; rw [HAs.out]; simp only [Option.bind_some, popIdx]; rw [if_pos hneg, if_pos ⟨by omega, by omega⟩]; congr 1; omega)
        go_wp2_with fail
        generalize hW2 : w1.setCell ⟨w.heap.size, 0, none⟩ (.int .i64 (k : Int)) = W2
        obtain ⟨hL2, hB2, z0, z1, z2⟩ := WK.out W2 hW2
        have HLk := Lib.hid hL2; have HBw2 := Lib.hid hB2
        clear hW2 hL2 hB2 WK c0 f0 l0
        obtain ⟨x, hx⟩ : ∃ x, xs[k]? = some x := ⟨_, List.getElem?_eq_getElem (by rw [← HN0.out]; exact hkn)⟩
        have hLd := HLk.out.below (w' := W2.drew.drew) (below_drew1 (below_drew1 (Below.refl _ _)))
        obtain ⟨T, y, ce, hse⟩ := HLk.out.get hx
        obtain ⟨vs, hvl, hvo, hvc, hvs, hfin⟩ := hLd.pop (k := k) (by rw [← HN0.out]; exact hkn)
        rw [← HN0.out] at hvl hfin
        obtain ⟨c0, _, _, f0, l0, lg, _⟩ := HLk.out.cells
        rw [← HN0.out] at c0
        have HSE := Lib.hid (hse.below (w' := W2.drew.drew) (below_drew1 (below_drew1 (Below.refl _ _))))
        obtain ⟨A, hA, hnews⟩ : ∃ A : Addr, (if N = k + 1 then some (⟨g, 0, none⟩ : Addr) else some ⟨g, k + 1, none⟩) = some A ∧ Hid (∀ j u, vs[j]? = some u → W2.drew.drew.cell? (A.add j) = some u) := by
          by_cases h : N = k + 1
          · refine ⟨⟨g, 0, none⟩, by simp [h], fun j u hu => ?_⟩
            have h0 : vs.length = 0 := by rw [hvl]; omega
            rw [List.length_eq_zero_iff.1 h0] at hu
            simp at hu
          · refine ⟨⟨g, k + 1, none⟩, by simp [h], fun j u hu => ?_⟩
            rw [Addr.add_lit]
            exact hvc j u hu
        have s1 : Hid (vs.length = (N - (k + 1)) * 1) := by rw [Nat.mul_one]; exact hvl
        have s2 : Hid (∀ u ∈ vs, u.oneCell' = true) := hvo
        have s3 : Hid (∀ j, j < vs.length → (W2.drew.drew.cell? ⟨g, 0 + k * 1 + j, none⟩).isSome = true ∧ W2.drew.drew.frozen? ⟨g, 0 + k * 1 + j, none⟩ = false) := by
          intro j hj
          rw [Nat.mul_one, Nat.zero_add]
          exact hvs j hj
        have hic : k ≤ N := by omega
        have hwr : IntKind.i64.wrap ((k : Int) + 1) = (k : Int) + 1 := by rw [IntKind.wrap_i64]; omega
        have hp0 : (0 : Int) ≤ (k : Int) + 1 := by omega
        have hp1 : (k : Int) + 1 ≤ (N : Int) := by omega
        have hp2 : ((k : Int) + 1).toNat = k + 1 := by omega
        have hp3 : (0 : Int) ≤ (k : Int) := by omega
        have hp4 : (k : Int) < (N : Int) := by omega
        have hp5 : ((k : Int)).toNat = k := by omega
        have CM := Lib.hid (checkMutable_any lb g N xs { data := #[112, 111, 112, 32, 102, 114, 111, 109] } W2 HLk.out)
        have HX := Lib.hid hx; have HV := Lib.hid hvl
        have HW' : Hid (∀ W, W = W2.drew.drew.setCells g k vs → (W.cell? ⟨lb, 0, none⟩ = some (.slice (some ⟨g, 0, none⟩) N N) ∧ W.frozen? ⟨lb, 0, none⟩ = false ∧ lb < W.heap.size)) := Lib.hid (fun W hW => (hfin W hW).1)
        have HFIN : Hid (∀ W W', W = W2.drew.drew.setCells g k vs → W' = W.setCell ⟨lb, 0, none⟩ (.slice (some ⟨g, 0, none⟩) (N - 1) N) → PpPost xs ats lb g H w (.returned (.tuple #[.iface T y, .nilIface])) W') := Lib.hid (fun W W' hW hW' => by
          obtain ⟨q1, q2, q3⟩ := (hfin W hW).2 W' hW'
          have hB : Below H W2 W2.drew.drew := below_drew1 (below_drew1 (Below.refl _ _))
          refine ⟨(HBw2.out.mono HHb.out).trans (hB.trans (q3 H HG.out HLB.out)), .inl ⟨k, x, T, y, by rw [← HN0.out]; exact HP.out, HX.out, rfl, ?_, by rw [← HN0.out]; exact q1⟩⟩
          exact q2 _ _ (HSE.out))
        clear hx hLd hse hvl hvo hvc hvs hfin HM
        refine CM.out.mono ?_
        rintro e w4 ⟨rfl, rfl⟩
        clear CM
        go_wp2_with fail
        go_region
        obtain ⟨k0, e0, m0⟩ := HW'.out _ rfl
        clear HW' z1 z2
        go_wp2_with fail
        go_region_law (refine step_append_room rfl (.tmp 76) (.tmp 83) 43 rfl 47 i0 1 Tryz.underlying43 hi0 hz1 g 0 k N (by simp [Act.eval, Act.put]) A (N - (k + 1)) (N - (k + 1)) vs (by simp [Act.eval, Act.put]) s1.out hnews.out s2.out (by omega) s3.out ?_)
        all_goals (go_wp2_with fail)
        all_goals go_ret2
        all_goals exact HFIN.out _ _ rfl (by rw [show k + (N - (k + 1)) = N - 1 by omega])
    · by_cases hgt : (N : Int) ≤ i
      · have hle : ¬ i < (N : Int) := by omega
        clear hr1 hr2
        have HN : Hid (popAt ats N = none) := Lib.hid (by unfold popAt; rw [HAs.out]; simp only [Option.bind_some, popIdx]; rw [if_neg hneg, if_neg (by omega)])
        clear HM
        go_wp2_with fail
        refine (outOfRange_any _ _ _ _).mono ?_
        rintro e w3 ⟨q, rfl, hb3⟩
        have hbx := HBw.out
        have HB3 := Lib.hid (hbx.trans (hb3.mono hbx.size))
        clear hbx
        clear hb3
        go_wp2_with fail
        refine (nameErrP_any _ _ _).mono ?_
        rintro e w4 ⟨q2, rfl, hb4⟩
        have HB4 := Lib.hid (HB3.out.trans (hb4.mono HB3.out.size))
        clear hb4
        go_wp2_with fail
        go_ret2
        exact FERR.out _ _ HB4.out HN.out
      · obtain ⟨k, rfl⟩ : ∃ k : Nat, i = (k : Int) := ⟨i.toNat, by omega⟩
        have hkn : k < N := by omega
        have hge : ¬ (N : Int) ≤ (k : Int) := by omega
        clear hr1 hr2
        have HP : Hid (popAt ats N = some k) := Lib.hid (by unfold popAt; rw [HAs.out]; simp only [Option.bind_some, popIdx]; rw [if_neg hneg, if_pos ⟨by omega, by omega⟩]; congr 1)
        go_wp2_with fail
        have hL2 := HLw.out.below HBw.out
        have hB2 := HBw.out
        obtain ⟨z0, z1, z2⟩ : w1.cell? ⟨w.heap.size, 0, none⟩ = some (.int .i64 (k : Int)) ∧ w1.frozen? ⟨w.heap.size, 0, none⟩ = false ∧ w.heap.size < w1.heap.size := ⟨c0, f0, l0⟩
        clear c0 f0 l0 HBi
        revert hL2 hB2 z0 z1 z2
        clear HBw
        generalize w1 = W2
        intro hL2 hB2 z0 z1 z2
        have HLk := Lib.hid hL2; have HBw2 := Lib.hid hB2
        clear hL2 hB2
        obtain ⟨x, hx⟩ : ∃ x, xs[k]? = some x := ⟨_, List.getElem?_eq_getElem (by rw [← HN0.out]; exact hkn)⟩
        have hLd := HLk.out.below (w' := W2.drew.drew) (below_drew1 (below_drew1 (Below.refl _ _)))
        obtain ⟨T, y, ce, hse⟩ := HLk.out.get hx
        obtain ⟨vs, hvl, hvo, hvc, hvs, hfin⟩ := hLd.pop (k := k) (by rw [← HN0.out]; exact hkn)
        rw [← HN0.out] at hvl hfin
        obtain ⟨c0, _, _, f0, l0, lg, _⟩ := HLk.out.cells
        rw [← HN0.out] at c0
        have HSE := Lib.hid (hse.below (w' := W2.drew.drew) (below_drew1 (below_drew1 (Below.refl _ _))))
        obtain ⟨A, hA, hnews⟩ : ∃ A : Addr, (if N = k + 1 then some (⟨g, 0, none⟩ : Addr) else some ⟨g, k + 1, none⟩) = some A ∧ Hid (∀ j u, vs[j]? = some u → W2.drew.drew.cell? (A.add j) = some u) := by
          by_cases h : N = k + 1
          · refine ⟨⟨g, 0, none⟩, by simp [h], fun j u hu => ?_⟩
            have h0 : vs.length = 0 := by rw [hvl]; omega
            rw [List.length_eq_zero_iff.1 h0] at hu
            simp at hu
          · refine ⟨⟨g, k + 1, none⟩, by simp [h], fun j u hu => ?_⟩
            rw [Addr.add_lit]
            exact hvc j u hu
        have s1 : Hid (vs.length = (N - (k + 1)) * 1) := by rw [Nat.mul_one]; exact hvl
        have s2 : Hid (∀ u ∈ vs, u.oneCell' = true) := hvo
        have s3 : Hid (∀ j, j < vs.length → (W2.drew.drew.cell? ⟨g, 0 + k * 1 + j, none⟩).isSome = true ∧ W2.drew.drew.frozen? ⟨g, 0 + k * 1 + j, none⟩ = false) := by
          intro j hj
          rw [Nat.mul_one, Nat.zero_add]
          exact hvs j hj
        have hic : k ≤ N := by omega
        have hwr : IntKind.i64.wrap ((k : Int) + 1) = (k : Int) + 1 := by rw [IntKind.wrap_i64]; omega
        have hp0 : (0 : Int) ≤ (k : Int) + 1 := by omega
        have hp1 : (k : Int) + 1 ≤ (N : Int) := by omega
        have hp2 : ((k : Int) + 1).toNat = k + 1 := by omega
        have hp3 : (0 : Int) ≤ (k : Int) := by omega
        have hp4 : (k : Int) < (N : Int) := by omega
        have hp5 : ((k : Int)).toNat = k := by omega
        have CM := Lib.hid (checkMutable_any lb g N xs { data := #[112, 111, 112, 32, 102, 114, 111, 109] } W2 HLk.out)
        have HX := Lib.hid hx; have HV := Lib.hid hvl
        have HW' : Hid (∀ W, W = W2.drew.drew.setCells g k vs → (W.cell? ⟨lb, 0, none⟩ = some (.slice (some ⟨g, 0, none⟩) N N) ∧ W.frozen? ⟨lb, 0, none⟩ = false ∧ lb < W.heap.size)) := Lib.hid (fun W hW => (hfin W hW).1)
        have HFIN : Hid (∀ W W', W = W2.drew.drew.setCells g k vs → W' = W.setCell ⟨lb, 0, none⟩ (.slice (some ⟨g, 0, none⟩) (N - 1) N) → PpPost xs ats lb g H w (.returned (.tuple #[.iface T y, .nilIface])) W') := Lib.hid (fun W W' hW hW' => by
          obtain ⟨q1, q2, q3⟩ := (hfin W hW).2 W' hW'
          have hB : Below H W2 W2.drew.drew := below_drew1 (below_drew1 (Below.refl _ _))
          refine ⟨(HBw2.out.mono HHb.out).trans (hB.trans (q3 H HG.out HLB.out)), .inl ⟨k, x, T, y, by rw [← HN0.out]; exact HP.out, HX.out, rfl, ?_, by rw [← HN0.out]; exact q1⟩⟩
          exact q2 _ _ (HSE.out))
        clear hx hLd hse hvl hvo hvc hvs hfin HM
        refine CM.out.mono ?_
        rintro e w4 ⟨rfl, rfl⟩
        clear CM
        go_wp2_with fail
        go_region
        obtain ⟨k0, e0, m0⟩ := HW'.out _ rfl
        clear HW' z1 z2
        go_wp2_with fail
        go_region_law (refine step_append_room rfl (.tmp 76) (.tmp 83) 43 rfl 47 i0 1 Tryz.underlying43 hi0 hz1 g 0 k N (by simp [Act.eval, Act.put]) A (N - (k + 1)) (N - (k + 1)) vs (by simp [Act.eval, Act.put]) s1.out hnews.out s2.out (by omega) s3.out ?_)
        all_goals (go_wp2_with fail)
        all_goals go_ret2
        all_goals exact HFIN.out _ _ rfl (by rw [show k + (N - (k + 1)) = N - 1 by omega])
  · have HAs : Hid (popAt ats N = none) := Lib.hid (by unfold popAt; rw [has]; rfl)
    have HBw := Lib.hid hbw
    clear hbw has UNP RNG
    go_wp2_with fail
    go_ret2
    exact FERR.out _ _ HBw.out HAs.out
end Go.Proofs.YtggpaejlmfppoaaGreat
