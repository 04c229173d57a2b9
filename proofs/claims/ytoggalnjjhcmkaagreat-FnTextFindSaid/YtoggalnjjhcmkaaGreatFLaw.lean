/- The law FnTextFind: its walk. -/
import Derived.Test.YtoggalnjjhcmkaaGreatMFindC
import Derived.Test.YtoggalnjjhcmkaaGreatSteps2
import Derived.Deep.CutRange
import Derived.Deep.RegionHeld3
import Derived.Deep.RegionLaw
import Derived.Outline
namespace Go.Proofs.YtoggalnjjhcmkaaGreat
open Go.RowKit Dig
set_option linter.unusedVariables false
set_option linter.unusedSimpArgs false
set_option maxRecDepth 100000

def fit7 (l t k : Nat) : Bool := decide (l ≤ 2147483647) && decide (t ≤ 2147483647) && decide (k ≤ 2147483647)
theorem fits7_any (kd : Int) (nb : Bool) (a : Option Addr) (l c : Nat) (u : Int) (t : ByteArray) (ka : Option Addr) (kn kc : Nat) (w : World) :
    Calls Tryz.prog 19 #[.agg #[.int .i64 kd, .bool nb, .slice a l c, .int .u64 u, .string t, .slice ka kn kc]] w fun e w' => e = .returned (.bool (fit7 l t.size kn)) ∧ Below w.heap.size w w' := by
  have HB : Hid (Below w.heap.size w (w.alloc (.cells #[.int .i64 kd, .bool nb, .slice a l c, .int .u64 u, .string t, .slice ka kn kc] 26))) := (Below.refl _ _).alloc (Nat.le_refl _) _
  by_cases h1 : l ≤ 2147483647
  · by_cases h2 : t.size ≤ 2147483647
    · by_cases h3 : kn ≤ 2147483647
      · have HE : Hid (fit7 l t.size kn = true) := Lib.hid (by simp [fit7, h1, h2, h3])
        go_enter Tryz.func19, Tryz.ntmps19
        go_wp2_with fail
        go_ret
        exact ⟨by rw [HE.out]; rfl, HB.out⟩
      · have HE : Hid (fit7 l t.size kn = false) := Lib.hid (by simp [fit7, h3])
        go_enter Tryz.func19, Tryz.ntmps19
        go_wp2_with fail
        go_ret
        exact ⟨by rw [HE.out]; rfl, HB.out⟩
    · have HE : Hid (fit7 l t.size kn = false) := Lib.hid (by simp [fit7, h2])
      go_enter Tryz.func19, Tryz.ntmps19
      go_wp2_with fail
      go_ret
      exact ⟨by rw [HE.out]; rfl, HB.out⟩
  · have HE : Hid (fit7 l t.size kn = false) := Lib.hid (by simp [fit7, h1])
    go_enter Tryz.func19, Tryz.ntmps19
    go_wp2_with fail
    go_ret
    exact ⟨by rw [HE.out]; rfl, HB.out⟩
/-- the two boxes -/
theorem twelve {W : World} {g : Nat} {x0 x1 x2 x3 x4 x5 z0 z1 z2 z3 z4 z5 : Value} (h1 : Blk W g 26 [x0, x1, x2, x3, x4, x5]) (h2 : Blk W (g + 1) 26 [z0, z1, z2, z3, z4, z5]) :
    (W.cell? ⟨g, 0, none⟩ = some x0 ∧ W.cell? ⟨g, 1, none⟩ = some x1 ∧ W.cell? ⟨g, 2, none⟩ = some x2 ∧ W.cell? ⟨g, 3, none⟩ = some x3 ∧ W.cell? ⟨g, 4, none⟩ = some x4 ∧ W.cell? ⟨g, 5, none⟩ = some x5) ∧
    (W.cell? ⟨g + 1, 0, none⟩ = some z0 ∧ W.cell? ⟨g + 1, 1, none⟩ = some z1 ∧ W.cell? ⟨g + 1, 2, none⟩ = some z2 ∧ W.cell? ⟨g + 1, 3, none⟩ = some z3 ∧ W.cell? ⟨g + 1, 4, none⟩ = some z4 ∧ W.cell? ⟨g + 1, 5, none⟩ = some z5) ∧
    (W.frozen? ⟨g, 0, none⟩ = false ∧ W.frozen? ⟨g, 1, none⟩ = false ∧ W.frozen? ⟨g, 2, none⟩ = false ∧ W.frozen? ⟨g, 3, none⟩ = false ∧ W.frozen? ⟨g, 4, none⟩ = false ∧ W.frozen? ⟨g, 5, none⟩ = false) ∧
    (W.frozen? ⟨g + 1, 0, none⟩ = false ∧ W.frozen? ⟨g + 1, 1, none⟩ = false ∧ W.frozen? ⟨g + 1, 2, none⟩ = false ∧ W.frozen? ⟨g + 1, 3, none⟩ = false ∧ W.frozen? ⟨g + 1, 4, none⟩ = false ∧ W.frozen? ⟨g + 1, 5, none⟩ = false) :=
  ⟨⟨h1.cell 0 (by simp), h1.cell 1 (by simp), h1.cell 2 (by simp), h1.cell 3 (by simp), h1.cell 4 (by simp), h1.cell 5 (by simp)⟩, ⟨h2.cell 0 (by simp), h2.cell 1 (by simp), h2.cell 2 (by simp), h2.cell 3 (by simp), h2.cell 4 (by simp), h2.cell 5 (by simp)⟩, ⟨h1.free 0, h1.free 1, h1.free 2, h1.free 3, h1.free 4, h1.free 5⟩, ⟨h2.free 0, h2.free 1, h2.free 2, h2.free 3, h2.free 4, h2.free 5⟩⟩
theorem VaP.step1 {w w' : World} {x : Scal} {n : Bool} {a : Option Addr} {l c : Nat} {t : ByteArray} (h : VaP w x n a l c t) (hb : Below w.drew.heap.size w.drew w') : VaP w' x n a l c t := VaP.below (w := w.drew) h hb
theorem vaP_six {w' : World} {g : Nat} {z : Scal} {n : Bool} {a : Option Addr} {l c : Nat} {t : ByteArray} {L : List Value} {e : TypeId} (h : VaP w' z n a l c t) (hk : Blk w' g e L) (hd : ∀ u ∈ L, ∀ m, u ≠ bv m) (v0 v1 v2 v3 v4 v5 : Value) :
    VaP ((((((w'.setCell ⟨g, 0, none⟩ v0).setCell ⟨g, 1, none⟩ v1).setCell ⟨g, 2, none⟩ v2).setCell ⟨g, 3, none⟩ v3).setCell ⟨g, 4, none⟩ v4).setCell ⟨g, 5, none⟩ v5) z n a l c t := by
  have hu : Up (some g) w' ((((((w'.setCell ⟨g, 0, none⟩ v0).setCell ⟨g, 1, none⟩ v1).setCell ⟨g, 2, none⟩ v2).setCell ⟨g, 3, none⟩ v3).setCell ⟨g, 4, none⟩ v4).setCell ⟨g, 5, none⟩ v5) :=
    ((((((Up.refl (some g) w').set 0 _).set 1 _).set 2 _).set 3 _).set 4 _).set 5 _
  revert hu
  generalize ((((((w'.setCell ⟨g, 0, none⟩ v0).setCell ⟨g, 1, none⟩ v1).setCell ⟨g, 2, none⟩ v2).setCell ⟨g, 3, none⟩ v3).setCell ⟨g, 4, none⟩ v4).setCell ⟨g, 5, none⟩ v5) = W
  intro hu
  have hsz := hu.size
  cases z with
  | non => exact h
  | str s => exact h
  | int i =>
    obtain ⟨mag, e, ms, hm, hsl⟩ : Va w' w'.heap.size (.agg #[.int .i64 2, .bool n, .slice a l c, .int .u64 0, .string t, .slice none 0 0]) i := h
    exact ⟨mag, e, ms, hm, (Sl.up_far hsl hk (not_bv hd ms) hu).more hsz⟩
theorem stepOf_pl (k i : Int) : Pl (stepOf k i) := by
  unfold stepOf
  by_cases h2 : k = 2
  · rw [if_pos h2]; exact wrap32_bd _
  · rw [if_neg h2]
    by_cases h4 : k = 4
    · rw [if_pos h4]; show (ByteArray.empty).size ≤ 4096; decide
    · rw [if_neg h4]; trivial
/-- what stands behind the drawing of the arguments -/
def LfRel (w : World) (x y : Scal) (wx : World) : Prop :=
  ∃ n1 a1 l1 c1 t1 n2 a2 l2 c2 t2, Hid (Blk wx w.heap.size 26 [.int .i64 x.kind, .bool n1, .slice a1 l1 c1, .int .u64 0, .string t1, .slice none 0 0]) ∧ Hid (Blk wx (w.heap.size + 1) 26 [.int .i64 y.kind, .bool n2, .slice a2 l2 c2, .int .u64 0, .string t2, .slice none 0 0]) ∧ Hid (VaP wx x n1 a1 l1 c1 t1) ∧ Hid (VaP wx y n2 a2 l2 c2 t2) ∧ Hid (Below w.heap.size w wx)
theorem lf_mk {w w3 : World} {x y : Scal} {n1 n2 : Bool} {a1 a2 : Option Addr} {l1 c1 l2 c2 : Nat} {t1 t2 : ByteArray} {L1 L2 : List Value} (hA : ∃ x0 x1 x2 x3 x4 x5, L1 = [x0, x1, x2, x3, x4, x5]) (hB : ∃ x0 x1 x2 x3 x4 x5, L2 = [x0, x1, x2, x3, x4, x5]) (kA : Blk w3 w.heap.size 26 L1) (kB : Blk w3 (w.heap.size + 1) 26 L2) (dA : ∀ u ∈ L1, ∀ m, u ≠ bv m) (dB : ∀ u ∈ L2, ∀ m, u ≠ bv m) (h1 : VaP w3 x n1 a1 l1 c1 t1) (h2 : VaP w3 y n2 a2 l2 c2 t2) (hb : Below w.heap.size w w3) :
    LfRel w x y ((((((((((((w3.setCell ⟨w.heap.size, 0, none⟩ (.int .i64 x.kind)).setCell ⟨w.heap.size, 1, none⟩ (.bool n1)).setCell ⟨w.heap.size, 2, none⟩ (.slice a1 l1 c1)).setCell ⟨w.heap.size, 3, none⟩ (.int .u64 0)).setCell ⟨w.heap.size, 4, none⟩ (.string t1)).setCell ⟨w.heap.size, 5, none⟩ (.slice none 0 0)).setCell ⟨w.heap.size + 1, 0, none⟩ (.int .i64 y.kind)).setCell ⟨w.heap.size + 1, 1, none⟩ (.bool n2)).setCell ⟨w.heap.size + 1, 2, none⟩ (.slice a2 l2 c2)).setCell ⟨w.heap.size + 1, 3, none⟩ (.int .u64 0)).setCell ⟨w.heap.size + 1, 4, none⟩ (.string t2)).setCell ⟨w.heap.size + 1, 5, none⟩ (.slice none 0 0)) := by
  obtain ⟨x0, x1, x2, x3, x4, x5, rfl⟩ := hA
  obtain ⟨z0, z1, z2, z3, z4, z5, rfl⟩ := hB
  have hne : w.heap.size ≠ w.heap.size + 1 := by omega
  have kB1 := (((((kB.far (p := ⟨w.heap.size, 0, none⟩) (Ne.symm hne) (.int .i64 x.kind)).far (p := ⟨w.heap.size, 1, none⟩) (Ne.symm hne) (.bool n1)).far (p := ⟨w.heap.size, 2, none⟩) (Ne.symm hne) (.slice a1 l1 c1)).far (p := ⟨w.heap.size, 3, none⟩) (Ne.symm hne) (.int .u64 0)).far (p := ⟨w.heap.size, 4, none⟩) (Ne.symm hne) (.string t1)).far (p := ⟨w.heap.size, 5, none⟩) (Ne.symm hne) (.slice none 0 0)
  have kA1 := six_set kA (.int .i64 x.kind) (.bool n1) (.slice a1 l1 c1) (.int .u64 0) (.string t1) (.slice none 0 0)
  have kA2 := (((((kA1.far (p := ⟨w.heap.size + 1, 0, none⟩) hne (.int .i64 y.kind)).far (p := ⟨w.heap.size + 1, 1, none⟩) hne (.bool n2)).far (p := ⟨w.heap.size + 1, 2, none⟩) hne (.slice a2 l2 c2)).far (p := ⟨w.heap.size + 1, 3, none⟩) hne (.int .u64 0)).far (p := ⟨w.heap.size + 1, 4, none⟩) hne (.string t2)).far (p := ⟨w.heap.size + 1, 5, none⟩) hne (.slice none 0 0)
  have kB2 := six_set kB1 (.int .i64 y.kind) (.bool n2) (.slice a2 l2 c2) (.int .u64 0) (.string t2) (.slice none 0 0)
  have v1 := vaP_six (vaP_six h1 kA dA (.int .i64 x.kind) (.bool n1) (.slice a1 l1 c1) (.int .u64 0) (.string t1) (.slice none 0 0)) kB1 dB (.int .i64 y.kind) (.bool n2) (.slice a2 l2 c2) (.int .u64 0) (.string t2) (.slice none 0 0)
  have v2 := vaP_six (vaP_six h2 kA dA (.int .i64 x.kind) (.bool n1) (.slice a1 l1 c1) (.int .u64 0) (.string t1) (.slice none 0 0)) kB1 dB (.int .i64 y.kind) (.bool n2) (.slice a2 l2 c2) (.int .u64 0) (.string t2) (.slice none 0 0)
  exact ⟨n1, a1, l1, c1, t1, n2, a2, l2, c2, t2, Lib.hid kA2, Lib.hid kB2, Lib.hid v1, Lib.hid v2, Lib.hid (six_below (six_below hb (Nat.le_refl _) _ _ _ _ _ _) (Nat.le_succ _) _ _ _ _ _ _)⟩
theorem six_not_bv (k : Int) (n : Bool) (a : Option Addr) (l c : Nat) (u : Int) (t : ByteArray) (ka : Option Addr) (kn kc : Nat) : ∀ v ∈ [Value.int .i64 k, .bool n, .slice a l c, .int .u64 u, .string t, .slice ka kn kc], ∀ m, v ≠ bv m := by
  intro v hv m
  simp only [List.mem_cons, List.mem_nil_iff, or_false] at hv
  rcases hv with rfl | rfl | rfl | rfl | rfl | rfl <;> simp [bv]
theorem findR_bd {err last : Bool} {s p : ByteArray} {x y : Scal} {i : Int} (hs : s.size ≤ 60) (h : findR err last s p x y = some i) : -1 ≤ i ∧ i ≤ 60 := by
  unfold findR at h
  cases he : edges s.size x y with
  | none => rw [he] at h; cases h
  | some ab =>
    obtain ⟨a, b⟩ := ab
    rw [he] at h
    simp only at h
    have hab : a ≤ s.size ∧ b ≤ s.size := by
      unfold edges at he
      split at he
      · simp only [Option.some.injEq, Prod.mk.injEq] at he
        obtain ⟨rfl, rfl⟩ := he
        exact ⟨clampE_le _ _, clampE_le _ _⟩
      · cases he
    have hbd := foundAt_bd last s p a b hab.1 hab.2
    split at h
    · cases h
    · injection h with h
      omega
theorem ab_found : findR true false { data := #[97, 98] } { data := #[98] } .non .non = some 1 := by decide +kernel
/-- what stands behind the question to the reference -/
def AqRel (wc : World) (z : Scal) (g : Nat) (wx : World) : Prop :=
  ∃ n a l c t, Hid (Blk wx g 26 [.int .i64 z.kind, .bool n, .slice a l c, .int .u64 0, .string t, .slice none 0 0]) ∧ Hid (VaP wx z n a l c t) ∧ Hid (Below wc.heap.size wc wx)
theorem aq_store {wc w' : World} {z : Scal} {g : Nat} {n : Bool} {a : Option Addr} {l c : Nat} {t : ByteArray} (hk : Blk w' g 26 [.int .i64 0, .bool false, .slice none 0 0, .int .u64 0, .string { data := #[] }, .slice none 0 0]) (hv : VaP w' z n a l c t) (hb : Below wc.heap.size wc w') (hg : wc.heap.size ≤ g) :
    AqRel wc z g ((((((w'.setCell ⟨g, 0, none⟩ (.int .i64 z.kind)).setCell ⟨g, 1, none⟩ (.bool n)).setCell ⟨g, 2, none⟩ (.slice a l c)).setCell ⟨g, 3, none⟩ (.int .u64 0)).setCell ⟨g, 4, none⟩ (.string t)).setCell ⟨g, 5, none⟩ (.slice none 0 0)) :=
  ⟨n, a, l, c, t, Lib.hid (six_set hk _ _ _ _ _ _), Lib.hid (vaP_six hv hk zero_not_bv _ _ _ _ _ _), Lib.hid (six_below hb hg _ _ _ _ _ _)⟩
theorem aq_new {wc w' : World} {z : Scal} {n : Bool} {a : Option Addr} {l c : Nat} {t : ByteArray} (hv : VaP w' z n a l c t) (hb : Below wc.heap.size wc w') :
    AqRel wc z w'.heap.size (w'.alloc (.cells #[.int .i64 z.kind, .bool n, .slice a l c, .int .u64 0, .string t, .slice none 0 0] 26)) :=
  ⟨n, a, l, c, t, Lib.hid (Blk.new w' _ [.int .i64 z.kind, .bool n, .slice a l c, .int .u64 0, .string t, .slice none 0 0]), Lib.hid (hv.below ((Below.refl _ _).alloc (Nat.le_refl _) _)), Lib.hid (hb.alloc hb.size _)⟩
set_option maxHeartbeats 6400000 in
theorem lawFind (nn : Nat) (text part : ByteArray) (kd1 : Int) (nb1 : Bool) (ma1 : Option Addr) (ml1 mc1 : Nat) (ub1 : Int) (tx1 : ByteArray) (ka1 : Option Addr) (kn1 kc1 : Nat) (ms1 : List Nat) (kd2 : Int) (nb2 : Bool) (ma2 : Option Addr) (ml2 mc2 : Nat) (ub2 : Int) (tx2 : ByteArray) (ka2 : Option Addr) (kn2 kc2 : Nat) (ms2 : List Nat) (w : World) (hn : nn < 256) (r : Nat) (hr : r = nn % 4)
    (hms1 : ∀ x ∈ ms1, x < 256) (hms2 : ∀ x ∈ ms2, x < 256) (hsl1 : Sl w w.heap.size (.slice ma1 ml1 mc1) (ms1.map bv)) (hsl2 : Sl w w.heap.size (.slice ma2 ml2 mc2) (ms2.map bv)) :
    Calls Tryz.prog 5 #[.int .u8 (nn : Int), .string text, .string part, .agg #[.int .i64 kd1, .bool nb1, .slice ma1 ml1 mc1, .int .u64 ub1, .string tx1, .slice ka1 kn1 kc1], .agg #[.int .i64 kd2, .bool nb2, .slice ma2 ml2 mc2, .int .u64 ub2, .string tx2, .slice ka2 kn2 kc2]] w fun e w' => e = .returned (.bool true) ∧ Below w.heap.size w w' := by
  obtain ⟨W0, hW0⟩ : ∃ W0, W0 = (w.alloc (.cells #[.int .i64 kd1, .bool nb1, .slice ma1 ml1 mc1, .int .u64 ub1, .string tx1, .slice ka1 kn1 kc1] 26)).alloc (.cells #[.int .i64 kd2, .bool nb2, .slice ma2 ml2 mc2, .int .u64 ub2, .string tx2, .slice ka2 kn2 kc2] 26) := ⟨_, rfl⟩
  have hb0 : Below w.heap.size w W0 := by rw [hW0]; exact ((Below.refl _ _).alloc (Nat.le_refl _) _).alloc (by simp) _
  have k1 : Blk W0 w.heap.size 26 [.int .i64 kd1, .bool nb1, .slice ma1 ml1 mc1, .int .u64 ub1, .string tx1, .slice ka1 kn1 kc1] := by rw [hW0]; exact (Blk.new w _ [.int .i64 kd1, .bool nb1, .slice ma1 ml1 mc1, .int .u64 ub1, .string tx1, .slice ka1 kn1 kc1]).alloc _
  have k2 : Blk W0 (w.heap.size + 1) 26 [.int .i64 kd2, .bool nb2, .slice ma2 ml2 mc2, .int .u64 ub2, .string tx2, .slice ka2 kn2 kc2] := by
    have := Blk.new (w.alloc (.cells #[.int .i64 kd1, .bool nb1, .slice ma1 ml1 mc1, .int .u64 ub1, .string tx1, .slice ka1 kn1 kc1] 26)) 26 [.int .i64 kd2, .bool nb2, .slice ma2 ml2 mc2, .int .u64 ub2, .string tx2, .slice ka2 kn2 kc2]
    rw [hW0]; simpa using this
  have KEEP : Hid (∀ W, Below W0.heap.size W0 W → Blk W w.heap.size 26 [.int .i64 kd1, .bool nb1, .slice ma1 ml1 mc1, .int .u64 ub1, .string tx1, .slice ka1 kn1 kc1] ∧ Blk W (w.heap.size + 1) 26 [.int .i64 kd2, .bool nb2, .slice ma2 ml2 mc2, .int .u64 ub2, .string tx2, .slice ka2 kn2 kc2] ∧ Below w.heap.size w W) := Lib.hid (fun W h => ⟨k1.below h k1.lt, k2.below h k2.lt, hb0.trans (h.mono hb0.size)⟩)
  have F1 : Hid (∀ W, Below W0.heap.size W0 W → Calls Tryz.prog 19 #[.agg #[.int .i64 kd1, .bool nb1, .slice ma1 ml1 mc1, .int .u64 ub1, .string tx1, .slice ka1 kn1 kc1]] W fun e w' => e = .returned (.bool (fit7 ml1 tx1.size kn1)) ∧ Below W0.heap.size W0 w') := Lib.hid (fun W h => (fits7_any _ _ _ _ _ _ _ _ _ _ W).mono (by rintro e w' ⟨rfl, hb⟩; exact ⟨rfl, h.trans (hb.mono h.size)⟩))
  have F2 : Hid (∀ W, Below W0.heap.size W0 W → Calls Tryz.prog 19 #[.agg #[.int .i64 kd2, .bool nb2, .slice ma2 ml2 mc2, .int .u64 ub2, .string tx2, .slice ka2 kn2 kc2]] W fun e w' => e = .returned (.bool (fit7 ml2 tx2.size kn2)) ∧ Below W0.heap.size W0 w') := Lib.hid (fun W h => (fits7_any _ _ _ _ _ _ _ _ _ _ W).mono (by rintro e w' ⟨rfl, hb⟩; exact ⟨rfl, h.trans (hb.mono h.size)⟩))
  obtain ⟨b1, hb1⟩ : ∃ b, b = fit7 ml1 tx1.size kn1 := ⟨_, rfl⟩
  obtain ⟨b2, hb2⟩ : ∃ b, b = fit7 ml2 tx2.size kn2 := ⟨_, rfl⟩
  rw [← hb1] at F1; rw [← hb2] at F2
  have H0 : Hid (Below W0.heap.size W0 W0) := Lib.hid (Below.refl _ _)
  have HB1 := Lib.hid hb1; have HB2 := Lib.hid hb2; have HN := Lib.hid hn; have HR := Lib.hid hr
  have HM := Lib.hid (And.intro hms1 hms2); have HS := Lib.hid (And.intro hsl1 hsl2); have HBW := Lib.hid hb0
  obtain ⟨⟨p0, p1, p2, p3, p4, p5⟩, ⟨q0, q1, q2, q3, q4, q5⟩, ⟨f0, f1, f2, f3, f4, f5⟩, g0, g1, g2, g3, g4, g5⟩ := twelve k1 k2
  clear k1 k2 hb1 hb2 hn hr hms1 hms2 hsl1 hsl2 hb0
  rcases Nat.lt_or_ge 2147483647 text.size with hts | hts
  · go_enter Tryz.func5, Tryz.ntmps5
    go_wp2_with fail
    rw [← hW0]
    go_ret
    exact ⟨rfl, HBW.out⟩
  rcases Nat.lt_or_ge 2147483647 part.size with hps | hps
  · go_enter Tryz.func5, Tryz.ntmps5
    go_wp2_with fail
    rw [← hW0]
    go_ret
    exact ⟨rfl, HBW.out⟩
  cases b1 with
  | false =>
    go_enter Tryz.func5, Tryz.ntmps5
    go_wp2_with fail
    rw [← hW0]
    refine (F1.out _ H0.out).mono ?_
    rintro e w1 ⟨rfl, hb1⟩
    have HX := Lib.hid (KEEP.out _ hb1).2.2
    clear hb1 hW0
    go_wp2_with fail
    go_ret
    exact ⟨rfl, HX.out⟩
  | true =>
  cases b2 with
  | false =>
    go_enter Tryz.func5, Tryz.ntmps5
    go_wp2_with fail
    rw [← hW0]
    refine (F1.out _ H0.out).mono ?_
    rintro e w1 ⟨rfl, hb1⟩
    have H1 := Lib.hid hb1
    obtain ⟨hkA, hkB, hbw⟩ := KEEP.out _ hb1
    clear p0 p1 p2 p3 p4 p5 q0 q1 q2 q3 q4 q5 f0 f1 f2 f3 f4 f5 g0 g1 g2 g3 g4 g5
    obtain ⟨⟨p0, p1, p2, p3, p4, p5⟩, ⟨q0, q1, q2, q3, q4, q5⟩, ⟨f0, f1, f2, f3, f4, f5⟩, g0, g1, g2, g3, g4, g5⟩ := twelve hkA hkB
    clear hb1 hkA hkB hbw hW0
    go_wp2_with fail
    refine (F2.out _ H1.out).mono ?_
    rintro e w2 ⟨rfl, hb2⟩
    have HX := Lib.hid (KEEP.out _ hb2).2.2
    clear hb2
    go_wp2_with fail
    go_ret
    exact ⟨rfl, HX.out⟩
  | true =>
  have hl1 : ml1 ≤ 2147483647 := by have := HB1.out; unfold fit7 at this; simp at this; omega
  have hl2 : ml2 ≤ 2147483647 := by have := HB2.out; unfold fit7 at this; simp at this; omega
  have hm1 : ms1.length = ml1 := by obtain ⟨a', c', hv, _⟩ := HS.out.1; injection hv with _ h2 _; rw [h2]; simp
  have hm2 : ms2.length = ml2 := by obtain ⟨a', c', hv, _⟩ := HS.out.2; injection hv with _ h2 _; rw [h2]; simp
  obtain ⟨x, hx⟩ : ∃ x, x = stepOf kd1 (rawI nb1 ms1) := ⟨_, rfl⟩
  obtain ⟨y, hy⟩ : ∃ y, y = stepOf kd2 (rawI nb2 ms2) := ⟨_, rfl⟩
  have HPX : Hid (Pl x ∧ Pl y) := Lib.hid ⟨by rw [hx]; exact stepOf_pl _ _, by rw [hy]; exact stepOf_pl _ _⟩
  obtain ⟨kx, hkx⟩ : ∃ kx, kx = x.kind := ⟨_, rfl⟩
  obtain ⟨ky, hky⟩ : ∃ ky, ky = y.kind := ⟨_, rfl⟩
  have ST1 : Hid (∀ W, Below W0.heap.size W0 W → Calls Tryz.prog 8 #[.agg #[.int .i64 kd1, .bool nb1, .slice ma1 ml1 mc1, .int .u64 ub1, .string tx1, .slice ka1 kn1 kc1]] W fun e w' => ∃ n a l c t, e = .returned (.agg #[.int .i64 kx, .bool n, .slice a l c, .int .u64 0, .string t, .slice none 0 0]) ∧ VaP w' x n a l c t ∧ Below W.heap.size W w' ∧ Below W0.heap.size W0 w') := Lib.hid (fun W h => by
    have hw := (KEEP.out _ h).2.2
    refine (steps32_any kd1 nb1 _ ub1 tx1 ka1 kn1 kc1 ms1 W HM.out.1 (by omega) ((HS.out.1.below hw).more hw.size)).mono ?_
    rintro e w' ⟨n, a, l, c, t, rfl, hv, hb, _⟩
    rw [← hx] at hv ⊢
    exact ⟨n, a, l, c, t, by rw [hkx], hv, hb, h.trans (hb.mono h.size)⟩)
  have ST2 : Hid (∀ W, Below W0.heap.size W0 W → Calls Tryz.prog 8 #[.agg #[.int .i64 kd2, .bool nb2, .slice ma2 ml2 mc2, .int .u64 ub2, .string tx2, .slice ka2 kn2 kc2]] W fun e w' => ∃ n a l c t, e = .returned (.agg #[.int .i64 ky, .bool n, .slice a l c, .int .u64 0, .string t, .slice none 0 0]) ∧ VaP w' y n a l c t ∧ Below W.heap.size W w' ∧ Below W0.heap.size W0 w') := Lib.hid (fun W h => by
    have hw := (KEEP.out _ h).2.2
    refine (steps32_any kd2 nb2 _ ub2 tx2 ka2 kn2 kc2 ms2 W HM.out.2 (by omega) ((HS.out.2.below hw).more hw.size)).mono ?_
    rintro e w' ⟨n, a, l, c, t, rfl, hv, hb, _⟩
    rw [← hy] at hv ⊢
    exact ⟨n, a, l, c, t, by rw [hky], hv, hb, h.trans (hb.mono h.size)⟩)
  obtain ⟨s, hs⟩ : ∃ s, s = asc text := ⟨_, rfl⟩
  obtain ⟨p, hp⟩ : ∃ p, p = asc part := ⟨_, rfl⟩
  have CA1 : Hid (∀ W : World, Below W0.heap.size W0 W → Calls Tryz.prog 20 #[.string text] W fun e w' => e = .returned (.string s) ∧ Below W.heap.size W w' ∧ Below W0.heap.size W0 w') := Lib.hid (fun W h => by rw [hs]; exact (ascii_any text W hts).mono (by rintro e w' ⟨rfl, hb⟩; exact ⟨rfl, hb, h.trans (hb.mono h.size)⟩))
  have CA2 : Hid (∀ W : World, Below W0.heap.size W0 W → Calls Tryz.prog 20 #[.string part] W fun e w' => e = .returned (.string p) ∧ Below W.heap.size W w' ∧ Below W0.heap.size W0 w') := Lib.hid (fun W h => by rw [hp]; exact (ascii_any part W hps).mono (by rintro e w' ⟨rfl, hb⟩; exact ⟨rfl, hb, h.trans (hb.mono h.size)⟩))
  have HSZ : Hid (s.size ≤ 60 ∧ p.size ≤ 60) := Lib.hid ⟨by rw [hs]; exact asc_size _, by rw [hp]; exact asc_size _⟩
  have HKX := Lib.hid hkx; have HKY := Lib.hid hky
  clear hl1 hl2 hm1 hm2 hx hy hkx hky hs hp HB1 HB2 HM HS HBW
  go_enter Tryz.func5, Tryz.ntmps5
  go_wp2_with fail
  rw [← hW0]
  refine (F1.out _ H0.out).mono ?_
  rintro e w1 ⟨rfl, hb1⟩
  have H1 := Lib.hid hb1
  obtain ⟨hkA, hkB, hbw⟩ := KEEP.out _ hb1
  clear p0 p1 p2 p3 p4 p5 q0 q1 q2 q3 q4 q5 f0 f1 f2 f3 f4 f5 g0 g1 g2 g3 g4 g5 hW0
  obtain ⟨⟨p0, p1, p2, p3, p4, p5⟩, ⟨q0, q1, q2, q3, q4, q5⟩, ⟨f0, f1, f2, f3, f4, f5⟩, g0, g1, g2, g3, g4, g5⟩ := twelve hkA hkB
  clear hb1 hkA hkB hbw H0
  go_wp2_with fail
  refine (F2.out _ H1.out).mono ?_
  rintro e w2 ⟨rfl, hb2⟩
  have H := Lib.hid hb2
  obtain ⟨hkA, hkB, hbw⟩ := KEEP.out _ hb2
  have lA := hkA.lt
  have lB := hkB.lt
  clear p0 p1 p2 p3 p4 p5 q0 q1 q2 q3 q4 q5 f0 f1 f2 f3 f4 f5 g0 g1 g2 g3 g4 g5
  obtain ⟨⟨p0, p1, p2, p3, p4, p5⟩, ⟨q0, q1, q2, q3, q4, q5⟩, ⟨f0, f1, f2, f3, f4, f5⟩, g0, g1, g2, g3, g4, g5⟩ := twelve hkA hkB
  clear hb2 hkA hkB hbw H1 F1 F2
  go_upto_region 3 with fail
  go_cut [11, 12] from 41 to 48 (fun u v wx => u = .string s ∧ v = .string p ∧ LfRel w x y wx)
  case first =>
    go_region_with (first
      | (go_at_call 20; (first | (with_reducible refine (CA1.out _ H.out).mono ?_) | (with_reducible refine (CA1.out _ (below_drew1 H.out)).mono ?_) | (with_reducible refine (CA2.out _ H.out).mono ?_) | (with_reducible refine (CA2.out _ (below_drew1 H.out)).mono ?_)); rintro e w3 ⟨rfl, hb, hB⟩; have H := Lib.hid hB; (try have HV1 := Lib.hid (by with_reducible first | exact VaP.below HV1.out hb | exact VaP.step1 HV1.out hb)); (try have HV2 := Lib.hid (by with_reducible first | exact VaP.below HV2.out hb | exact VaP.step1 HV2.out hb)); obtain ⟨hkA, hkB, hbw⟩ := KEEP.out _ H.out; have lA := hkA.lt; have lB := hkB.lt; clear p0 p1 p2 p3 p4 p5 q0 q1 q2 q3 q4 q5 f0 f1 f2 f3 f4 f5 g0 g1 g2 g3 g4 g5; obtain ⟨⟨p0, p1, p2, p3, p4, p5⟩, ⟨q0, q1, q2, q3, q4, q5⟩, ⟨f0, f1, f2, f3, f4, f5⟩, g0, g1, g2, g3, g4, g5⟩ := twelve hkA hkB; clear hkA hkB hbw; clear hb hB)
      | (go_at_call 8; (first | (with_reducible refine (ST1.out _ H.out).mono ?_) | (with_reducible refine (ST1.out _ (below_drew1 H.out)).mono ?_)); rintro e w3 ⟨n1, a1, l1, c1, t1, rfl, hv, hb, hB⟩; have H := Lib.hid hB; (try have HV2 := Lib.hid (by with_reducible first | exact VaP.below HV2.out hb | exact VaP.step1 HV2.out hb)); have HV1 := Lib.hid hv; clear hv; obtain ⟨hkA, hkB, hbw⟩ := KEEP.out _ H.out; have lA := hkA.lt; have lB := hkB.lt; clear p0 p1 p2 p3 p4 p5 q0 q1 q2 q3 q4 q5 f0 f1 f2 f3 f4 f5 g0 g1 g2 g3 g4 g5; obtain ⟨⟨p0, p1, p2, p3, p4, p5⟩, ⟨q0, q1, q2, q3, q4, q5⟩, ⟨f0, f1, f2, f3, f4, f5⟩, g0, g1, g2, g3, g4, g5⟩ := twelve hkA hkB; clear hkA hkB hbw; clear hb hB)
      | (go_at_call 8; (first | (with_reducible refine (ST2.out _ H.out).mono ?_) | (with_reducible refine (ST2.out _ (below_drew1 H.out)).mono ?_)); rintro e w3 ⟨n2, a2, l2, c2, t2, rfl, hv, hb, hB⟩; have H := Lib.hid hB; (try have HV1 := Lib.hid (by with_reducible first | exact VaP.below HV1.out hb | exact VaP.step1 HV1.out hb)); have HV2 := Lib.hid hv; clear hv; obtain ⟨hkA, hkB, hbw⟩ := KEEP.out _ H.out; have lA := hkA.lt; have lB := hkB.lt; clear p0 p1 p2 p3 p4 p5 q0 q1 q2 q3 q4 q5 f0 f1 f2 f3 f4 f5 g0 g1 g2 g3 g4 g5; obtain ⟨⟨p0, p1, p2, p3, p4, p5⟩, ⟨q0, q1, q2, q3, q4, q5⟩, ⟨f0, f1, f2, f3, f4, f5⟩, g0, g1, g2, g3, g4, g5⟩ := twelve hkA hkB; clear hkA hkB hbw; clear hb hB))
    all_goals
      obtain ⟨hkA, hkB, hbw⟩ := KEEP.out _ H.out
      have FIN := Lib.hid (lf_mk ⟨_, _, _, _, _, _, rfl⟩ ⟨_, _, _, _, _, _, rfl⟩ hkA hkB (six_not_bv _ _ _ _ _ _ _ _ _ _) (six_not_bv _ _ _ _ _ _ _ _ _ _) HV1.out HV2.out hbw)
      rw [← HKX.out, ← HKY.out] at FIN
      clear hkA hkB hbw
      go_wp2_with fail
      go_meet
      exact ⟨rfl, rfl, FIN.out⟩
  case rest =>
    obtain ⟨rfl, rfl, n1, a1, l1, c1, t1, n2, a2, l2, c2, t2, HA, HB, HV1, HV2, HW⟩ := hcut
    rename World => wd
    rw [← HKX.out] at HA; rw [← HKY.out] at HB
    have KX : Hid (∀ W, Below wd.heap.size wd W → (W.cell? ⟨w.heap.size, 0, none⟩ = some (.int .i64 kx) ∧ W.cell? ⟨w.heap.size, 1, none⟩ = some (.bool n1) ∧ W.cell? ⟨w.heap.size, 2, none⟩ = some (.slice a1 l1 c1) ∧ W.cell? ⟨w.heap.size, 3, none⟩ = some (.int .u64 0) ∧ W.cell? ⟨w.heap.size, 4, none⟩ = some (.string t1) ∧ W.cell? ⟨w.heap.size, 5, none⟩ = some (.slice none 0 0)) ∧ (W.cell? ⟨w.heap.size + 1, 0, none⟩ = some (.int .i64 ky) ∧ W.cell? ⟨w.heap.size + 1, 1, none⟩ = some (.bool n2) ∧ W.cell? ⟨w.heap.size + 1, 2, none⟩ = some (.slice a2 l2 c2) ∧ W.cell? ⟨w.heap.size + 1, 3, none⟩ = some (.int .u64 0) ∧ W.cell? ⟨w.heap.size + 1, 4, none⟩ = some (.string t2) ∧ W.cell? ⟨w.heap.size + 1, 5, none⟩ = some (.slice none 0 0))) := Lib.hid (fun W h => by
      obtain ⟨h1, h2, _, _⟩ := twelve (HA.out.below h HA.out.lt) (HB.out.below h HB.out.lt)
      exact ⟨h1, h2⟩)
    have KZ : Hid (∀ W, Below wd.heap.size wd W → W.cell? ⟨w.heap.size, 0, none⟩ = some (.int .i64 kx) ∧ W.cell? ⟨w.heap.size, 1, none⟩ = some (.bool n1) ∧ W.cell? ⟨w.heap.size, 2, none⟩ = some (.slice a1 l1 c1) ∧ W.cell? ⟨w.heap.size, 3, none⟩ = some (.int .u64 0) ∧ W.cell? ⟨w.heap.size, 4, none⟩ = some (.string t1) ∧ W.cell? ⟨w.heap.size, 5, none⟩ = some (.slice none 0 0) ∧ W.cell? ⟨w.heap.size + 1, 0, none⟩ = some (.int .i64 ky) ∧ W.cell? ⟨w.heap.size + 1, 1, none⟩ = some (.bool n2) ∧ W.cell? ⟨w.heap.size + 1, 2, none⟩ = some (.slice a2 l2 c2) ∧ W.cell? ⟨w.heap.size + 1, 3, none⟩ = some (.int .u64 0) ∧ W.cell? ⟨w.heap.size + 1, 4, none⟩ = some (.string t2) ∧ W.cell? ⟨w.heap.size + 1, 5, none⟩ = some (.slice none 0 0)) := Lib.hid (fun W h => by
      obtain ⟨⟨h0, h1, h2, h3, h4, h5⟩, h6, h7, h8, h9, h10, h11⟩ := KX.out W h
      exact ⟨h0, h1, h2, h3, h4, h5, h6, h7, h8, h9, h10, h11⟩)
    have HZ : Hid (Below wd.heap.size wd wd) := Below.refl _ _
    have FINB : Hid (∀ W, Below wd.heap.size wd W → Below w.heap.size w W) := Lib.hid (fun W h => HW.out.trans (h.mono HW.out.size))
    have VX : Hid (∀ W, Below wd.heap.size wd W → VaP W x n1 a1 l1 c1 t1 ∧ VaP W y n2 a2 l2 c2 t2) := Lib.hid (fun W h => ⟨HV1.out.below h, HV2.out.below h⟩)
    obtain ⟨⟨p0, p1, p2, p3, p4, p5⟩, q0, q1, q2, q3, q4, q5⟩ := KX.out _ HZ.out
    have hr3 : r = 0 ∨ r = 1 ∨ r = 2 ∨ r = 3 := by have := HR.out; omega
    clear ST1 ST2 CA1 CA2 KEEP H lA lB f0 f1 f2 f3 f4 f5 g0 g1 g2 g3 g4 g5 HA HB HV1 HV2 HW
    rcases hr3 with rfl | rfl | rfl | rfl
    · have hm2 : (nn : Int) % 4 = 0 := by have := HR.out; omega
      obtain ⟨R, hR⟩ : ∃ R, R = findR true false s p x y := ⟨_, rfl⟩
      obtain ⟨z, hz⟩ : ∃ z, z = ansS R := ⟨_, rfl⟩
      obtain ⟨kz, hkz⟩ : ∃ kz, kz = z.kind := ⟨_, rfl⟩
      obtain ⟨ok, hok⟩ : ∃ ok, ok = R.isSome := ⟨_, rfl⟩
      have TV : Hid (∀ W, Below wd.heap.size wd W → Calls Tryz.prog 22 #[.string p] W fun e w' => e = .returned (.agg #[.int .i64 4, .bool false, .slice none 0 0, .int .u64 0, .string p, .slice none 0 0]) ∧ Below wd.heap.size wd w' ∧ Below W.heap.size W w') := Lib.hid (fun W h => (textVal_any p W).mono (by rintro e w' ⟨rfl, hb⟩; exact ⟨rfl, h.trans (hb.mono h.size), hb⟩))
      have AQG : Hid (∀ W g, Below wd.heap.size wd W → SArgs W g p x y n1 n2 a1 a2 l1 c1 l2 c2 t1 t2 → Calls Tryz.prog 21 #[.string s, .string ({ data := #[102, 105, 110, 100] } : ByteArray), .slice (some ⟨g, 0, none⟩) 3 3] W fun e w' => ∃ n a l c t, e = .returned (.tuple #[.agg #[.int .i64 kz, .bool n, .slice a l c, .int .u64 0, .string t, .slice none 0 0], .slice none 0 0, .bool ok]) ∧ VaP w' z n a l c t ∧ Below wd.heap.size wd w' ∧ Below W.heap.size W w') := Lib.hid (fun W g h hA => by
        refine (asked_find s p g x y n1 n2 a1 a2 l1 c1 l2 c2 t1 t2 W HSZ.out.1 HSZ.out.2 hA HPX.out.1 HPX.out.2).mono ?_
        rintro e w' ⟨n, a, l, c, t, rfl, hva, hbb⟩
        rw [← hR, ← hz] at hva ⊢
        exact ⟨n, a, l, c, t, by rw [hkz, hok], hva, h.trans (hbb.mono h.size), hbb⟩)
      have SA : Hid (∀ W, Below wd.heap.size wd W → SArgs (W.alloc (.cells #[.int .i64 4, .bool false, .slice none 0 0, .int .u64 0, .string p, .slice none 0 0, .int .i64 kx, .bool n1, .slice a1 l1 c1, .int .u64 0, .string t1, .slice none 0 0, .int .i64 ky, .bool n2, .slice a2 l2 c2, .int .u64 0, .string t2, .slice none 0 0] 26)) W.heap.size p x y n1 n2 a1 a2 l1 c1 l2 c2 t1 t2) := Lib.hid (fun W h => by
        have hk := Blk.new W 26 (([.int .i64 4, .bool false, .slice none 0 0, .int .u64 0, .string p, .slice none 0 0] : List Value) ++ (sc6 x n1 a1 l1 c1 t1 ++ sc6 y n2 a2 l2 c2 t2))
        have hb : Below W.heap.size W (W.alloc (.cells (([.int .i64 4, .bool false, .slice none 0 0, .int .u64 0, .string p, .slice none 0 0] : List Value) ++ (sc6 x n1 a1 l1 c1 t1 ++ sc6 y n2 a2 l2 c2 t2)).toArray 26)) := (Below.refl _ _).alloc (Nat.le_refl _) _
        have hv := VX.out W h
        rw [HKX.out, HKY.out]
        exact ⟨hk, hv.1.below hb, hv.2.below hb⟩)
      have AQ1 : Hid (∀ W, Below wd.heap.size wd W → Calls Tryz.prog 21 #[.string s, .string ({ data := #[102, 105, 110, 100] } : ByteArray), .slice (some ⟨W.heap.size, 0, none⟩) 3 3] (W.alloc (.cells #[.int .i64 4, .bool false, .slice none 0 0, .int .u64 0, .string p, .slice none 0 0, .int .i64 kx, .bool n1, .slice a1 l1 c1, .int .u64 0, .string t1, .slice none 0 0, .int .i64 ky, .bool n2, .slice a2 l2 c2, .int .u64 0, .string t2, .slice none 0 0] 26)) fun e w' => ∃ n a l c t, e = .returned (.tuple #[.agg #[.int .i64 kz, .bool n, .slice a l c, .int .u64 0, .string t, .slice none 0 0], .slice none 0 0, .bool ok]) ∧ VaP w' z n a l c t ∧ Below wd.heap.size wd w' ∧ Below W.heap.size W w') := Lib.hid (fun W h => (AQG.out _ _ (h.alloc h.size _) (SA.out W h)).mono (by
        rintro e w' ⟨n, a, l, c, t, rfl, hva, hb, hbb⟩
        exact ⟨n, a, l, c, t, rfl, hva, hb, (show Below W.heap.size W _ from (Below.refl _ _).alloc (Nat.le_refl _) _).trans (hbb.mono (by simp))⟩))
      have AQ2 : Hid (∀ W, Below wd.heap.size wd W → Calls Tryz.prog 21 #[.string s, .string ({ data := #[102, 105, 110, 100] } : ByteArray), .slice (some ⟨W.heap.size, 0, none⟩) 3 3] ((W.alloc (.cells #[.int .i64 4, .bool false, .slice none 0 0, .int .u64 0, .string p, .slice none 0 0, .int .i64 kx, .bool n1, .slice a1 l1 c1, .int .u64 0, .string t1, .slice none 0 0, .int .i64 ky, .bool n2, .slice a2 l2 c2, .int .u64 0, .string t2, .slice none 0 0] 26)).alloc (.cells #[.int .i64 0, .bool false, .slice none 0 0, .int .u64 0, .string { data := #[] }, .slice none 0 0] 26)) fun e w' => ∃ n a l c t, e = .returned (.tuple #[.agg #[.int .i64 kz, .bool n, .slice a l c, .int .u64 0, .string t, .slice none 0 0], .slice none 0 0, .bool ok]) ∧ VaP w' z n a l c t ∧ Below wd.heap.size wd w' ∧ (Blk w' (W.heap.size + 1) 26 [.int .i64 0, .bool false, .slice none 0 0, .int .u64 0, .string { data := #[] }, .slice none 0 0] ∧ wd.heap.size ≤ W.heap.size + 1)) := Lib.hid (fun W h => (AQG.out _ _ ((h.alloc h.size _).alloc (h.alloc h.size _).size _) ((SA.out W h).below ((Below.refl _ _).alloc (Nat.le_refl _) _))).mono (by
        rintro e w' ⟨n, a, l, c, t, rfl, hva, hb, hbb⟩
        have hk := (blk_zero (W.alloc (.cells #[.int .i64 4, .bool false, .slice none 0 0, .int .u64 0, .string p, .slice none 0 0, .int .i64 kx, .bool n1, .slice a1 l1 c1, .int .u64 0, .string t1, .slice none 0 0, .int .i64 ky, .bool n2, .slice a2 l2 c2, .int .u64 0, .string t2, .slice none 0 0] 26))).below hbb (by simp)
        exact ⟨n, a, l, c, t, rfl, hva, hb, by simpa using hk, by have := h.size; omega⟩))
      have AQ3 : Hid (∀ W, Below wd.heap.size wd W → Calls Tryz.prog 21 #[.string s, .string ({ data := #[102, 105, 110, 100] } : ByteArray), .slice (some ⟨W.heap.size + 1, 0, none⟩) 3 3] ((W.alloc (.cells #[.int .i64 0, .bool false, .slice none 0 0, .int .u64 0, .string { data := #[] }, .slice none 0 0] 26)).alloc (.cells #[.int .i64 4, .bool false, .slice none 0 0, .int .u64 0, .string p, .slice none 0 0, .int .i64 kx, .bool n1, .slice a1 l1 c1, .int .u64 0, .string t1, .slice none 0 0, .int .i64 ky, .bool n2, .slice a2 l2 c2, .int .u64 0, .string t2, .slice none 0 0] 26)) fun e w' => ∃ n a l c t, e = .returned (.tuple #[.agg #[.int .i64 kz, .bool n, .slice a l c, .int .u64 0, .string t, .slice none 0 0], .slice none 0 0, .bool ok]) ∧ VaP w' z n a l c t ∧ Below wd.heap.size wd w' ∧ (Blk w' W.heap.size 26 [.int .i64 0, .bool false, .slice none 0 0, .int .u64 0, .string { data := #[] }, .slice none 0 0] ∧ wd.heap.size ≤ W.heap.size)) := Lib.hid (fun W h => by
        have e0 : (W.alloc (.cells #[.int .i64 0, .bool false, .slice none 0 0, .int .u64 0, .string { data := #[] }, .slice none 0 0] 26)).heap.size = W.heap.size + 1 := by simp
        have h1 := h.alloc h.size (.cells #[.int .i64 0, .bool false, .slice none 0 0, .int .u64 0, .string { data := #[] }, .slice none 0 0] 26)
        have hs := SA.out _ h1
        rw [e0] at hs
        refine (AQG.out _ _ (h1.alloc h1.size _) hs).mono ?_
        rintro e w' ⟨n, a, l, c, t, rfl, hva, hb, hbb⟩
        have hk := ((blk_zero W).alloc (.cells #[.int .i64 4, .bool false, .slice none 0 0, .int .u64 0, .string p, .slice none 0 0, .int .i64 kx, .bool n1, .slice a1 l1 c1, .int .u64 0, .string t1, .slice none 0 0, .int .i64 ky, .bool n2, .slice a2 l2 c2, .int .u64 0, .string t2, .slice none 0 0] 26)).below hbb (by simp; omega)
        exact ⟨n, a, l, c, t, rfl, hva, hb, hk, h.size⟩)
      have KS : Hid (∀ W g v0 v1 v2 v3 v4 v5, Below wd.heap.size wd W → wd.heap.size ≤ g → (fun w' : World => w'.cell? ⟨w.heap.size, 0, none⟩ = some (.int .i64 kx) ∧ w'.cell? ⟨w.heap.size, 1, none⟩ = some (.bool n1) ∧ w'.cell? ⟨w.heap.size, 2, none⟩ = some (.slice a1 l1 c1) ∧ w'.cell? ⟨w.heap.size, 3, none⟩ = some (.int .u64 0) ∧ w'.cell? ⟨w.heap.size, 4, none⟩ = some (.string t1) ∧ w'.cell? ⟨w.heap.size, 5, none⟩ = some (.slice none 0 0) ∧ w'.cell? ⟨w.heap.size + 1, 0, none⟩ = some (.int .i64 ky) ∧ w'.cell? ⟨w.heap.size + 1, 1, none⟩ = some (.bool n2) ∧ w'.cell? ⟨w.heap.size + 1, 2, none⟩ = some (.slice a2 l2 c2) ∧ w'.cell? ⟨w.heap.size + 1, 3, none⟩ = some (.int .u64 0) ∧ w'.cell? ⟨w.heap.size + 1, 4, none⟩ = some (.string t2) ∧ w'.cell? ⟨w.heap.size + 1, 5, none⟩ = some (.slice none 0 0)) ((((((W.setCell ⟨g, 0, none⟩ v0).setCell ⟨g, 1, none⟩ v1).setCell ⟨g, 2, none⟩ v2).setCell ⟨g, 3, none⟩ v3).setCell ⟨g, 4, none⟩ v4).setCell ⟨g, 5, none⟩ v5)) := Lib.hid (fun W g v0 v1 v2 v3 v4 v5 h hg => KZ.out _ ((((((h.setCell hg v0).setCell hg v1).setCell hg v2).setCell hg v3).setCell hg v4).setCell hg v5))
      simp only at KS
      have BZ : Hid (Blk ((wd.alloc (.cells #[.string { data := #[102, 105, 110, 100] }, .string { data := #[114, 102, 105, 110, 100] }, .string { data := #[105, 110, 100, 101, 120] }, .string { data := #[114, 105, 110, 100, 101, 120] }] 9)).alloc (.cells #[.int .i64 0, .bool false, .slice none 0 0, .int .u64 0, .string { data := #[] }, .slice none 0 0] 26)) (wd.heap.size + 1) 26 [.int .i64 0, .bool false, .slice none 0 0, .int .u64 0, .string { data := #[] }, .slice none 0 0]) := Lib.hid (by
        have h := blk_zero (wd.alloc (.cells #[.string { data := #[102, 105, 110, 100] }, .string { data := #[114, 102, 105, 110, 100] }, .string { data := #[105, 110, 100, 101, 120] }, .string { data := #[114, 105, 110, 100, 101, 120] }] 9))
        simpa using h)
      have BZP : Hid (∀ W', Below ((wd.alloc (.cells #[.string { data := #[102, 105, 110, 100] }, .string { data := #[114, 102, 105, 110, 100] }, .string { data := #[105, 110, 100, 101, 120] }, .string { data := #[114, 105, 110, 100, 101, 120] }] 9)).alloc (.cells #[.int .i64 0, .bool false, .slice none 0 0, .int .u64 0, .string { data := #[] }, .slice none 0 0] 26)).heap.size ((wd.alloc (.cells #[.string { data := #[102, 105, 110, 100] }, .string { data := #[114, 102, 105, 110, 100] }, .string { data := #[105, 110, 100, 101, 120] }, .string { data := #[114, 105, 110, 100, 101, 120] }] 9)).alloc (.cells #[.int .i64 0, .bool false, .slice none 0 0, .int .u64 0, .string { data := #[] }, .slice none 0 0] 26)) W' → Blk W' (wd.heap.size + 1) 26 [.int .i64 0, .bool false, .slice none 0 0, .int .u64 0, .string { data := #[] }, .slice none 0 0]) := Lib.hid (fun W' h => BZ.out.below h BZ.out.lt)
      have BZD : Hid (∀ W', Below ((wd.alloc (.cells #[.string { data := #[102, 105, 110, 100] }, .string { data := #[114, 102, 105, 110, 100] }, .string { data := #[105, 110, 100, 101, 120] }, .string { data := #[114, 105, 110, 100, 101, 120] }] 9)).alloc (.cells #[.int .i64 0, .bool false, .slice none 0 0, .int .u64 0, .string { data := #[] }, .slice none 0 0] 26)).drew.heap.size ((wd.alloc (.cells #[.string { data := #[102, 105, 110, 100] }, .string { data := #[114, 102, 105, 110, 100] }, .string { data := #[105, 110, 100, 101, 120] }, .string { data := #[114, 105, 110, 100, 101, 120] }] 9)).alloc (.cells #[.int .i64 0, .bool false, .slice none 0 0, .int .u64 0, .string { data := #[] }, .slice none 0 0] 26)).drew W' → Blk W' (wd.heap.size + 1) 26 [.int .i64 0, .bool false, .slice none 0 0, .int .u64 0, .string { data := #[] }, .slice none 0 0]) := Lib.hid (fun W' h => Blk.below (w := ((wd.alloc (.cells #[.string { data := #[102, 105, 110, 100] }, .string { data := #[114, 102, 105, 110, 100] }, .string { data := #[105, 110, 100, 101, 120] }, .string { data := #[114, 105, 110, 100, 101, 120] }] 9)).alloc (.cells #[.int .i64 0, .bool false, .slice none 0 0, .int .u64 0, .string { data := #[] }, .slice none 0 0] 26)).drew) BZ.out h BZ.out.lt)
      have HRR := Lib.hid hR; have HZZ := Lib.hid hz; have HKZ := Lib.hid hkz; have HOK := Lib.hid hok
      clear AQG SA hR hz hkz hok
      go_upto_region 5 with fail
      go_cut [14, 15, 16] from 49 to 65 (fun u v1 v2 wx => ∃ g, u = .pointer (some ⟨g, 0, none⟩) ∧ v1 = .slice none 0 0 ∧ v2 = .bool ok ∧ AqRel wd z g wx)
      case first =>
        go_region_held3 (fun w' => w'.cell? ⟨w.heap.size, 0, none⟩ = some (.int .i64 kx) ∧ w'.cell? ⟨w.heap.size, 1, none⟩ = some (.bool n1) ∧ w'.cell? ⟨w.heap.size, 2, none⟩ = some (.slice a1 l1 c1) ∧ w'.cell? ⟨w.heap.size, 3, none⟩ = some (.int .u64 0) ∧ w'.cell? ⟨w.heap.size, 4, none⟩ = some (.string t1) ∧ w'.cell? ⟨w.heap.size, 5, none⟩ = some (.slice none 0 0) ∧ w'.cell? ⟨w.heap.size + 1, 0, none⟩ = some (.int .i64 ky) ∧ w'.cell? ⟨w.heap.size + 1, 1, none⟩ = some (.bool n2) ∧ w'.cell? ⟨w.heap.size + 1, 2, none⟩ = some (.slice a2 l2 c2) ∧ w'.cell? ⟨w.heap.size + 1, 3, none⟩ = some (.int .u64 0) ∧ w'.cell? ⟨w.heap.size + 1, 4, none⟩ = some (.string t2) ∧ w'.cell? ⟨w.heap.size + 1, 5, none⟩ = some (.slice none 0 0)) (with_reducible first | exact KZ.out _ HZ.out | exact KZ.out _ (below_drew1 HZ.out) | exact KZ.out _ (HZ.out.alloc HZ.out.size _) | exact KZ.out _ (below_drew1 (HZ.out.alloc HZ.out.size _)) | exact KZ.out _ ((HZ.out.alloc HZ.out.size _).alloc (HZ.out.alloc HZ.out.size _).size _) | exact KZ.out _ (below_drew1 ((HZ.out.alloc HZ.out.size _).alloc (HZ.out.alloc HZ.out.size _).size _)) | exact KS.out _ _ _ _ _ _ _ _ HZ.out HG.out) ((first | (go_at_call 22; (first | ((first | (with_reducible refine (TV.out _ (below_drew1 (HZ.out.alloc HZ.out.size _))).mono ?_) | (with_reducible refine (TV.out _ (HZ.out.alloc HZ.out.size _)).mono ?_)); rintro e w4 ⟨rfl, hb4, hbb4⟩; have HZ := Lib.hid hb4; clear hb4 hbb4) | ((with_reducible refine (TV.out _ (below_drew1 ((HZ.out.alloc HZ.out.size _).alloc (HZ.out.alloc HZ.out.size _).size _))).mono ?_); rintro e w4 ⟨rfl, hb4, hbb4⟩; have B14 := Lib.hid (BZD.out _ hbb4); have HZ := Lib.hid hb4; clear hb4 hbb4) | ((with_reducible refine (TV.out _ ((HZ.out.alloc HZ.out.size _).alloc (HZ.out.alloc HZ.out.size _).size _)).mono ?_); rintro e w4 ⟨rfl, hb4, hbb4⟩; have B14 := Lib.hid (BZP.out _ hbb4); have HZ := Lib.hid hb4; clear hb4 hbb4))) | (go_at_call 21; (first | ((with_reducible refine (AQ1.out _ HZ.out).mono ?_); rintro e w5 ⟨n, a, l, c, t, rfl, hva, hb5, hbb5⟩; have FIN := Lib.hid (aq_new hva hb5); rw [← HKZ.out] at FIN; (try (have hk := B14.out.below hbb5 B14.out.lt; obtain ⟨⟨z0, z1, z2, z3, z4, z5⟩, y0, y1, y2, y3, y4, y5⟩ := six_ready (w := w) hk; have lz := hk.lt; have HG : Hid (wd.heap.size ≤ wd.heap.size + 1) := Lib.hid (Nat.le_succ _); have FIN := Lib.hid (aq_store hk hva hb5 HG.out); rw [← HKZ.out] at FIN; clear hk)); have HZ := Lib.hid hb5; clear hva hb5 hbb5) | ((with_reducible refine (AQ2.out _ HZ.out).mono ?_); rintro e w5 ⟨n, a, l, c, t, rfl, hva, hb5, hk, hg⟩; obtain ⟨⟨z0, z1, z2, z3, z4, z5⟩, y0, y1, y2, y3, y4, y5⟩ := six_ready (w := w) hk; have lz := hk.lt; have HG := Lib.hid hg; have FIN := Lib.hid (aq_store hk hva hb5 hg); rw [← HKZ.out] at FIN; have HZ := Lib.hid hb5; clear hva hb5 hk hg) | ((with_reducible refine (AQ3.out _ HZ.out).mono ?_); rintro e w5 ⟨n, a, l, c, t, rfl, hva, hb5, hk, hg⟩; obtain ⟨⟨z0, z1, z2, z3, z4, z5⟩, y0, y1, y2, y3, y4, y5⟩ := six_ready (w := w) hk; have lz := hk.lt; have HG := Lib.hid hg; have FIN := Lib.hid (aq_store hk hva hb5 hg); rw [← HKZ.out] at FIN; have HZ := Lib.hid hb5; clear hva hb5 hk hg)))))
        all_goals (go_wp2_with fail; go_meet; exact ⟨_, rfl, rfl, rfl, FIN.out⟩)
      case rest =>
        obtain ⟨g, rfl, rfl, rfl, nz, az, lz, cz, tz, HKZ1, HVZ, HBZ⟩ := hcut
        rw [← HKZ.out] at HKZ1
        obtain ⟨p0, p1, p2, p3, p4, p5, q0, q1, q2, q3, q4, q5⟩ := KZ.out _ HBZ.out
        have TF : Hid (∀ W, Below wd.heap.size wd W → Calls Tryz.prog 23 #[.int .i64 0, .string s, .string p, .agg #[.int .i64 kx, .bool n1, .slice a1 l1 c1, .int .u64 0, .string t1, .slice none 0 0], .agg #[.int .i64 ky, .bool n2, .slice a2 l2 c2, .int .u64 0, .string t2, .slice none 0 0]] W fun e w' => e = .returned (.tuple #[.int .i64 (R.getD 0), .bool ok, .bool true]) ∧ Below W.heap.size W w') := Lib.hid (fun W h => by
          have hv := VX.out W h
          have := textFind0_any s p x y n1 n2 a1 a2 l1 c1 l2 c2 t1 t2 W HSZ.out.1 HSZ.out.2 hv.1 hv.2 HPX.out.1.ok HPX.out.2.ok HPX.out.1 HPX.out.2
          rw [HKX.out, HKY.out]
          refine Calls.mono this ?_
          rintro e w' ⟨hb, rfl⟩
          rw [← HRR.out, HOK.out]
          exact ⟨rfl, hb⟩)
        have T1 : Hid (∀ W, Calls Tryz.prog 23 #[.int .i64 0, .string { data := #[97, 98] }, .string { data := #[98] }, .agg #[.int .i64 0, .bool false, .slice none 0 0, .int .u64 0, .string { data := #[] }, .slice none 0 0], .agg #[.int .i64 0, .bool false, .slice none 0 0, .int .u64 0, .string { data := #[] }, .slice none 0 0]] W fun e w' => e = .returned (.tuple #[.int .i64 1, .bool true, .bool true]) ∧ Below W.heap.size W w') := Lib.hid (fun W => by
          refine (textFind0_any { data := #[97, 98] } { data := #[98] } .non .non false false none none 0 0 0 0 { data := #[] } { data := #[] } W (by decide) (by decide) rfl rfl trivial trivial trivial trivial).mono ?_
          rintro e w' ⟨hb, rfl⟩
          exact ⟨by rw [ab_found]; rfl, hb⟩)
        have NO : Hid (∀ W, Below wc.heap.size wc W → Calls Tryz.prog 9 #[.agg #[.int .i64 kz, .bool nz, .slice az lz cz, .int .u64 0, .string tz, .slice none 0 0]] W fun e w' => e = .returned (.int .i64 (R.getD 0)) ∧ Below W.heap.size W w') := Lib.hid (fun W h => by
          have hp : Pl z := by
            rw [HZZ.out]
            cases hR : R with
            | none => trivial
            | some i =>
              rw [hR] at HRR
              obtain ⟨hi1, hi2⟩ := findR_bd HSZ.out.1 HRR.out.symm
              show -2147483648 ≤ i ∧ i ≤ 2147483647
              omega
          have := numberAns_any z nz az lz cz tz W (HVZ.out.below h) hp
          rw [HKZ.out]
          refine this.mono ?_
          rintro e w' ⟨rfl, hb⟩
          refine ⟨?_, hb⟩
          rw [HZZ.out]
          cases R <;> rfl)
        have KG : Hid (∀ W, Below wc.heap.size wc W → W.cell? ⟨g, 0, none⟩ = some (.int .i64 kz) ∧ W.cell? ⟨g, 1, none⟩ = some (.bool nz) ∧ W.cell? ⟨g, 2, none⟩ = some (.slice az lz cz) ∧ W.cell? ⟨g, 3, none⟩ = some (.int .u64 0) ∧ W.cell? ⟨g, 4, none⟩ = some (.string tz) ∧ W.cell? ⟨g, 5, none⟩ = some (.slice none 0 0)) := Lib.hid (fun W h => (six_ready (w := w) (HKZ1.out.below h HKZ1.out.lt)).1)
        have TF1 := Lib.hid (TF.out _ HBZ.out)
        have FW : Hid (∀ W, Below wc.heap.size wc W → Below w.heap.size w W) := Lib.hid (fun W h => FINB.out _ (HBZ.out.trans (h.mono HBZ.out.size)))
        clear TV AQ1 AQ2 AQ3 KS BZ BZP BZD TF VX KX KZ FINB HRR HZZ HKZ HKX HKY HPX HSZ HKZ1 HVZ HBZ HZ
        go_wp2_with fail
        refine TF1.out.mono ?_
        rintro e w6 ⟨rfl, hb6⟩
        have H6 := Lib.hid hb6
        clear hb6 TF1 p0 p1 p2 p3 p4 p5 q0 q1 q2 q3 q4 q5
        go_wp2_with fail
        refine (T1.out _).mono ?_
        rintro e w7 ⟨rfl, hb7⟩
        have H7 := Lib.hid (H6.out.trans (hb7.mono H6.out.size))
        obtain ⟨p0, p1, p2, p3, p4, p5⟩ := KG.out _ H7.out
        have NO1 := Lib.hid (NO.out _ H7.out)
        clear hb7 T1 NO KG
        cases R with
        | none =>
          obtain rfl : ok = false := HOK.out
          clear NO1
          go_wp2_with fail
          go_ret
          exact ⟨rfl, FW.out _ H7.out⟩
        | some i =>
          obtain rfl : ok = true := HOK.out
          go_wp2_with fail
          refine NO1.out.mono ?_
          rintro e w8 ⟨rfl, hb8⟩
          have H8 := Lib.hid (H7.out.trans (hb8.mono H7.out.size))
          clear hb8 NO1
          go_wp2_with fail
          go_ret
          exact ⟨rfl, FW.out _ H8.out⟩
    · have hm2 : (nn : Int) % 4 = 1 := by have := HR.out; omega
      obtain ⟨R, hR⟩ : ∃ R, R = findR true true s p x y := ⟨_, rfl⟩
      obtain ⟨z, hz⟩ : ∃ z, z = ansS R := ⟨_, rfl⟩
      obtain ⟨kz, hkz⟩ : ∃ kz, kz = z.kind := ⟨_, rfl⟩
      obtain ⟨ok, hok⟩ : ∃ ok, ok = R.isSome := ⟨_, rfl⟩
      have TV : Hid (∀ W, Below wd.heap.size wd W → Calls Tryz.prog 22 #[.string p] W fun e w' => e = .returned (.agg #[.int .i64 4, .bool false, .slice none 0 0, .int .u64 0, .string p, .slice none 0 0]) ∧ Below wd.heap.size wd w' ∧ Below W.heap.size W w') := Lib.hid (fun W h => (textVal_any p W).mono (by rintro e w' ⟨rfl, hb⟩; exact ⟨rfl, h.trans (hb.mono h.size), hb⟩))
      have AQG : Hid (∀ W g, Below wd.heap.size wd W → SArgs W g p x y n1 n2 a1 a2 l1 c1 l2 c2 t1 t2 → Calls Tryz.prog 21 #[.string s, .string ({ data := #[114, 102, 105, 110, 100] } : ByteArray), .slice (some ⟨g, 0, none⟩) 3 3] W fun e w' => ∃ n a l c t, e = .returned (.tuple #[.agg #[.int .i64 kz, .bool n, .slice a l c, .int .u64 0, .string t, .slice none 0 0], .slice none 0 0, .bool ok]) ∧ VaP w' z n a l c t ∧ Below wd.heap.size wd w' ∧ Below W.heap.size W w') := Lib.hid (fun W g h hA => by
        refine (asked_rfind s p g x y n1 n2 a1 a2 l1 c1 l2 c2 t1 t2 W HSZ.out.1 HSZ.out.2 hA HPX.out.1 HPX.out.2).mono ?_
        rintro e w' ⟨n, a, l, c, t, rfl, hva, hbb⟩
        rw [← hR, ← hz] at hva ⊢
        exact ⟨n, a, l, c, t, by rw [hkz, hok], hva, h.trans (hbb.mono h.size), hbb⟩)
      have SA : Hid (∀ W, Below wd.heap.size wd W → SArgs (W.alloc (.cells #[.int .i64 4, .bool false, .slice none 0 0, .int .u64 0, .string p, .slice none 0 0, .int .i64 kx, .bool n1, .slice a1 l1 c1, .int .u64 0, .string t1, .slice none 0 0, .int .i64 ky, .bool n2, .slice a2 l2 c2, .int .u64 0, .string t2, .slice none 0 0] 26)) W.heap.size p x y n1 n2 a1 a2 l1 c1 l2 c2 t1 t2) := Lib.hid (fun W h => by
        have hk := Blk.new W 26 (([.int .i64 4, .bool false, .slice none 0 0, .int .u64 0, .string p, .slice none 0 0] : List Value) ++ (sc6 x n1 a1 l1 c1 t1 ++ sc6 y n2 a2 l2 c2 t2))
        have hb : Below W.heap.size W (W.alloc (.cells (([.int .i64 4, .bool false, .slice none 0 0, .int .u64 0, .string p, .slice none 0 0] : List Value) ++ (sc6 x n1 a1 l1 c1 t1 ++ sc6 y n2 a2 l2 c2 t2)).toArray 26)) := (Below.refl _ _).alloc (Nat.le_refl _) _
        have hv := VX.out W h
        rw [HKX.out, HKY.out]
        exact ⟨hk, hv.1.below hb, hv.2.below hb⟩)
      have AQ1 : Hid (∀ W, Below wd.heap.size wd W → Calls Tryz.prog 21 #[.string s, .string ({ data := #[114, 102, 105, 110, 100] } : ByteArray), .slice (some ⟨W.heap.size, 0, none⟩) 3 3] (W.alloc (.cells #[.int .i64 4, .bool false, .slice none 0 0, .int .u64 0, .string p, .slice none 0 0, .int .i64 kx, .bool n1, .slice a1 l1 c1, .int .u64 0, .string t1, .slice none 0 0, .int .i64 ky, .bool n2, .slice a2 l2 c2, .int .u64 0, .string t2, .slice none 0 0] 26)) fun e w' => ∃ n a l c t, e = .returned (.tuple #[.agg #[.int .i64 kz, .bool n, .slice a l c, .int .u64 0, .string t, .slice none 0 0], .slice none 0 0, .bool ok]) ∧ VaP w' z n a l c t ∧ Below wd.heap.size wd w' ∧ Below W.heap.size W w') := Lib.hid (fun W h => (AQG.out _ _ (h.alloc h.size _) (SA.out W h)).mono (by
        rintro e w' ⟨n, a, l, c, t, rfl, hva, hb, hbb⟩
        exact ⟨n, a, l, c, t, rfl, hva, hb, (show Below W.heap.size W _ from (Below.refl _ _).alloc (Nat.le_refl _) _).trans (hbb.mono (by simp))⟩))
      have AQ2 : Hid (∀ W, Below wd.heap.size wd W → Calls Tryz.prog 21 #[.string s, .string ({ data := #[114, 102, 105, 110, 100] } : ByteArray), .slice (some ⟨W.heap.size, 0, none⟩) 3 3] ((W.alloc (.cells #[.int .i64 4, .bool false, .slice none 0 0, .int .u64 0, .string p, .slice none 0 0, .int .i64 kx, .bool n1, .slice a1 l1 c1, .int .u64 0, .string t1, .slice none 0 0, .int .i64 ky, .bool n2, .slice a2 l2 c2, .int .u64 0, .string t2, .slice none 0 0] 26)).alloc (.cells #[.int .i64 0, .bool false, .slice none 0 0, .int .u64 0, .string { data := #[] }, .slice none 0 0] 26)) fun e w' => ∃ n a l c t, e = .returned (.tuple #[.agg #[.int .i64 kz, .bool n, .slice a l c, .int .u64 0, .string t, .slice none 0 0], .slice none 0 0, .bool ok]) ∧ VaP w' z n a l c t ∧ Below wd.heap.size wd w' ∧ (Blk w' (W.heap.size + 1) 26 [.int .i64 0, .bool false, .slice none 0 0, .int .u64 0, .string { data := #[] }, .slice none 0 0] ∧ wd.heap.size ≤ W.heap.size + 1)) := Lib.hid (fun W h => (AQG.out _ _ ((h.alloc h.size _).alloc (h.alloc h.size _).size _) ((SA.out W h).below ((Below.refl _ _).alloc (Nat.le_refl _) _))).mono (by
        rintro e w' ⟨n, a, l, c, t, rfl, hva, hb, hbb⟩
        have hk := (blk_zero (W.alloc (.cells #[.int .i64 4, .bool false, .slice none 0 0, .int .u64 0, .string p, .slice none 0 0, .int .i64 kx, .bool n1, .slice a1 l1 c1, .int .u64 0, .string t1, .slice none 0 0, .int .i64 ky, .bool n2, .slice a2 l2 c2, .int .u64 0, .string t2, .slice none 0 0] 26))).below hbb (by simp)
        exact ⟨n, a, l, c, t, rfl, hva, hb, by simpa using hk, by have := h.size; omega⟩))
      have AQ3 : Hid (∀ W, Below wd.heap.size wd W → Calls Tryz.prog 21 #[.string s, .string ({ data := #[114, 102, 105, 110, 100] } : ByteArray), .slice (some ⟨W.heap.size + 1, 0, none⟩) 3 3] ((W.alloc (.cells #[.int .i64 0, .bool false, .slice none 0 0, .int .u64 0, .string { data := #[] }, .slice none 0 0] 26)).alloc (.cells #[.int .i64 4, .bool false, .slice none 0 0, .int .u64 0, .string p, .slice none 0 0, .int .i64 kx, .bool n1, .slice a1 l1 c1, .int .u64 0, .string t1, .slice none 0 0, .int .i64 ky, .bool n2, .slice a2 l2 c2, .int .u64 0, .string t2, .slice none 0 0] 26)) fun e w' => ∃ n a l c t, e = .returned (.tuple #[.agg #[.int .i64 kz, .bool n, .slice a l c, .int .u64 0, .string t, .slice none 0 0], .slice none 0 0, .bool ok]) ∧ VaP w' z n a l c t ∧ Below wd.heap.size wd w' ∧ (Blk w' W.heap.size 26 [.int .i64 0, .bool false, .slice none 0 0, .int .u64 0, .string { data := #[] }, .slice none 0 0] ∧ wd.heap.size ≤ W.heap.size)) := Lib.hid (fun W h => by
        have e0 : (W.alloc (.cells #[.int .i64 0, .bool false, .slice none 0 0, .int .u64 0, .string { data := #[] }, .slice none 0 0] 26)).heap.size = W.heap.size + 1 := by simp
        have h1 := h.alloc h.size (.cells #[.int .i64 0, .bool false, .slice none 0 0, .int .u64 0, .string { data := #[] }, .slice none 0 0] 26)
        have hs := SA.out _ h1
        rw [e0] at hs
        refine (AQG.out _ _ (h1.alloc h1.size _) hs).mono ?_
        rintro e w' ⟨n, a, l, c, t, rfl, hva, hb, hbb⟩
        have hk := ((blk_zero W).alloc (.cells #[.int .i64 4, .bool false, .slice none 0 0, .int .u64 0, .string p, .slice none 0 0, .int .i64 kx, .bool n1, .slice a1 l1 c1, .int .u64 0, .string t1, .slice none 0 0, .int .i64 ky, .bool n2, .slice a2 l2 c2, .int .u64 0, .string t2, .slice none 0 0] 26)).below hbb (by simp; omega)
        exact ⟨n, a, l, c, t, rfl, hva, hb, hk, h.size⟩)
      have KS : Hid (∀ W g v0 v1 v2 v3 v4 v5, Below wd.heap.size wd W → wd.heap.size ≤ g → (fun w' : World => w'.cell? ⟨w.heap.size, 0, none⟩ = some (.int .i64 kx) ∧ w'.cell? ⟨w.heap.size, 1, none⟩ = some (.bool n1) ∧ w'.cell? ⟨w.heap.size, 2, none⟩ = some (.slice a1 l1 c1) ∧ w'.cell? ⟨w.heap.size, 3, none⟩ = some (.int .u64 0) ∧ w'.cell? ⟨w.heap.size, 4, none⟩ = some (.string t1) ∧ w'.cell? ⟨w.heap.size, 5, none⟩ = some (.slice none 0 0) ∧ w'.cell? ⟨w.heap.size + 1, 0, none⟩ = some (.int .i64 ky) ∧ w'.cell? ⟨w.heap.size + 1, 1, none⟩ = some (.bool n2) ∧ w'.cell? ⟨w.heap.size + 1, 2, none⟩ = some (.slice a2 l2 c2) ∧ w'.cell? ⟨w.heap.size + 1, 3, none⟩ = some (.int .u64 0) ∧ w'.cell? ⟨w.heap.size + 1, 4, none⟩ = some (.string t2) ∧ w'.cell? ⟨w.heap.size + 1, 5, none⟩ = some (.slice none 0 0)) ((((((W.setCell ⟨g, 0, none⟩ v0).setCell ⟨g, 1, none⟩ v1).setCell ⟨g, 2, none⟩ v2).setCell ⟨g, 3, none⟩ v3).setCell ⟨g, 4, none⟩ v4).setCell ⟨g, 5, none⟩ v5)) := Lib.hid (fun W g v0 v1 v2 v3 v4 v5 h hg => KZ.out _ ((((((h.setCell hg v0).setCell hg v1).setCell hg v2).setCell hg v3).setCell hg v4).setCell hg v5))
      simp only at KS
      have BZ : Hid (Blk ((wd.alloc (.cells #[.string { data := #[102, 105, 110, 100] }, .string { data := #[114, 102, 105, 110, 100] }, .string { data := #[105, 110, 100, 101, 120] }, .string { data := #[114, 105, 110, 100, 101, 120] }] 9)).alloc (.cells #[.int .i64 0, .bool false, .slice none 0 0, .int .u64 0, .string { data := #[] }, .slice none 0 0] 26)) (wd.heap.size + 1) 26 [.int .i64 0, .bool false, .slice none 0 0, .int .u64 0, .string { data := #[] }, .slice none 0 0]) := Lib.hid (by
        have h := blk_zero (wd.alloc (.cells #[.string { data := #[102, 105, 110, 100] }, .string { data := #[114, 102, 105, 110, 100] }, .string { data := #[105, 110, 100, 101, 120] }, .string { data := #[114, 105, 110, 100, 101, 120] }] 9))
        simpa using h)
      have BZP : Hid (∀ W', Below ((wd.alloc (.cells #[.string { data := #[102, 105, 110, 100] }, .string { data := #[114, 102, 105, 110, 100] }, .string { data := #[105, 110, 100, 101, 120] }, .string { data := #[114, 105, 110, 100, 101, 120] }] 9)).alloc (.cells #[.int .i64 0, .bool false, .slice none 0 0, .int .u64 0, .string { data := #[] }, .slice none 0 0] 26)).heap.size ((wd.alloc (.cells #[.string { data := #[102, 105, 110, 100] }, .string { data := #[114, 102, 105, 110, 100] }, .string { data := #[105, 110, 100, 101, 120] }, .string { data := #[114, 105, 110, 100, 101, 120] }] 9)).alloc (.cells #[.int .i64 0, .bool false, .slice none 0 0, .int .u64 0, .string { data := #[] }, .slice none 0 0] 26)) W' → Blk W' (wd.heap.size + 1) 26 [.int .i64 0, .bool false, .slice none 0 0, .int .u64 0, .string { data := #[] }, .slice none 0 0]) := Lib.hid (fun W' h => BZ.out.below h BZ.out.lt)
      have BZD : Hid (∀ W', Below ((wd.alloc (.cells #[.string { data := #[102, 105, 110, 100] }, .string { data := #[114, 102, 105, 110, 100] }, .string { data := #[105, 110, 100, 101, 120] }, .string { data := #[114, 105, 110, 100, 101, 120] }] 9)).alloc (.cells #[.int .i64 0, .bool false, .slice none 0 0, .int .u64 0, .string { data := #[] }, .slice none 0 0] 26)).drew.heap.size ((wd.alloc (.cells #[.string { data := #[102, 105, 110, 100] }, .string { data := #[114, 102, 105, 110, 100] }, .string { data := #[105, 110, 100, 101, 120] }, .string { data := #[114, 105, 110, 100, 101, 120] }] 9)).alloc (.cells #[.int .i64 0, .bool false, .slice none 0 0, .int .u64 0, .string { data := #[] }, .slice none 0 0] 26)).drew W' → Blk W' (wd.heap.size + 1) 26 [.int .i64 0, .bool false, .slice none 0 0, .int .u64 0, .string { data := #[] }, .slice none 0 0]) := Lib.hid (fun W' h => Blk.below (w := ((wd.alloc (.cells #[.string { data := #[102, 105, 110, 100] }, .string { data := #[114, 102, 105, 110, 100] }, .string { data := #[105, 110, 100, 101, 120] }, .string { data := #[114, 105, 110, 100, 101, 120] }] 9)).alloc (.cells #[.int .i64 0, .bool false, .slice none 0 0, .int .u64 0, .string { data := #[] }, .slice none 0 0] 26)).drew) BZ.out h BZ.out.lt)
      have HRR := Lib.hid hR; have HZZ := Lib.hid hz; have HKZ := Lib.hid hkz; have HOK := Lib.hid hok
      clear AQG SA hR hz hkz hok
      go_upto_region 5 with fail
      go_cut [14, 15, 16] from 49 to 65 (fun u v1 v2 wx => ∃ g, u = .pointer (some ⟨g, 0, none⟩) ∧ v1 = .slice none 0 0 ∧ v2 = .bool ok ∧ AqRel wd z g wx)
      case first =>
        go_region_held3 (fun w' => w'.cell? ⟨w.heap.size, 0, none⟩ = some (.int .i64 kx) ∧ w'.cell? ⟨w.heap.size, 1, none⟩ = some (.bool n1) ∧ w'.cell? ⟨w.heap.size, 2, none⟩ = some (.slice a1 l1 c1) ∧ w'.cell? ⟨w.heap.size, 3, none⟩ = some (.int .u64 0) ∧ w'.cell? ⟨w.heap.size, 4, none⟩ = some (.string t1) ∧ w'.cell? ⟨w.heap.size, 5, none⟩ = some (.slice none 0 0) ∧ w'.cell? ⟨w.heap.size + 1, 0, none⟩ = some (.int .i64 ky) ∧ w'.cell? ⟨w.heap.size + 1, 1, none⟩ = some (.bool n2) ∧ w'.cell? ⟨w.heap.size + 1, 2, none⟩ = some (.slice a2 l2 c2) ∧ w'.cell? ⟨w.heap.size + 1, 3, none⟩ = some (.int .u64 0) ∧ w'.cell? ⟨w.heap.size + 1, 4, none⟩ = some (.string t2) ∧ w'.cell? ⟨w.heap.size + 1, 5, none⟩ = some (.slice none 0 0)) (with_reducible first | exact KZ.out _ HZ.out | exact KZ.out _ (below_drew1 HZ.out) | exact KZ.out _ (HZ.out.alloc HZ.out.size _) | exact KZ.out _ (below_drew1 (HZ.out.alloc HZ.out.size _)) | exact KZ.out _ ((HZ.out.alloc HZ.out.size _).alloc (HZ.out.alloc HZ.out.size _).size _) | exact KZ.out _ (below_drew1 ((HZ.out.alloc HZ.out.size _).alloc (HZ.out.alloc HZ.out.size _).size _)) | exact KS.out _ _ _ _ _ _ _ _ HZ.out HG.out) ((first | (go_at_call 22; (first | ((first | (with_reducible refine (TV.out _ (below_drew1 (HZ.out.alloc HZ.out.size _))).mono ?_) | (with_reducible refine (TV.out _ (HZ.out.alloc HZ.out.size _)).mono ?_)); rintro e w4 ⟨rfl, hb4, hbb4⟩; have HZ := Lib.hid hb4; clear hb4 hbb4) | ((with_reducible refine (TV.out _ (below_drew1 ((HZ.out.alloc HZ.out.size _).alloc (HZ.out.alloc HZ.out.size _).size _))).mono ?_); rintro e w4 ⟨rfl, hb4, hbb4⟩; have B14 := Lib.hid (BZD.out _ hbb4); have HZ := Lib.hid hb4; clear hb4 hbb4) | ((with_reducible refine (TV.out _ ((HZ.out.alloc HZ.out.size _).alloc (HZ.out.alloc HZ.out.size _).size _)).mono ?_); rintro e w4 ⟨rfl, hb4, hbb4⟩; have B14 := Lib.hid (BZP.out _ hbb4); have HZ := Lib.hid hb4; clear hb4 hbb4))) | (go_at_call 21; (first | ((with_reducible refine (AQ1.out _ HZ.out).mono ?_); rintro e w5 ⟨n, a, l, c, t, rfl, hva, hb5, hbb5⟩; have FIN := Lib.hid (aq_new hva hb5); rw [← HKZ.out] at FIN; (try (have hk := B14.out.below hbb5 B14.out.lt; obtain ⟨⟨z0, z1, z2, z3, z4, z5⟩, y0, y1, y2, y3, y4, y5⟩ := six_ready (w := w) hk; have lz := hk.lt; have HG : Hid (wd.heap.size ≤ wd.heap.size + 1) := Lib.hid (Nat.le_succ _); have FIN := Lib.hid (aq_store hk hva hb5 HG.out); rw [← HKZ.out] at FIN; clear hk)); have HZ := Lib.hid hb5; clear hva hb5 hbb5) | ((with_reducible refine (AQ2.out _ HZ.out).mono ?_); rintro e w5 ⟨n, a, l, c, t, rfl, hva, hb5, hk, hg⟩; obtain ⟨⟨z0, z1, z2, z3, z4, z5⟩, y0, y1, y2, y3, y4, y5⟩ := six_ready (w := w) hk; have lz := hk.lt; have HG := Lib.hid hg; have FIN := Lib.hid (aq_store hk hva hb5 hg); rw [← HKZ.out] at FIN; have HZ := Lib.hid hb5; clear hva hb5 hk hg) | ((with_reducible refine (AQ3.out _ HZ.out).mono ?_); rintro e w5 ⟨n, a, l, c, t, rfl, hva, hb5, hk, hg⟩; obtain ⟨⟨z0, z1, z2, z3, z4, z5⟩, y0, y1, y2, y3, y4, y5⟩ := six_ready (w := w) hk; have lz := hk.lt; have HG := Lib.hid hg; have FIN := Lib.hid (aq_store hk hva hb5 hg); rw [← HKZ.out] at FIN; have HZ := Lib.hid hb5; clear hva hb5 hk hg)))))
        all_goals (go_wp2_with fail; go_meet; exact ⟨_, rfl, rfl, rfl, FIN.out⟩)
      case rest =>
        obtain ⟨g, rfl, rfl, rfl, nz, az, lz, cz, tz, HKZ1, HVZ, HBZ⟩ := hcut
        rw [← HKZ.out] at HKZ1
        obtain ⟨p0, p1, p2, p3, p4, p5, q0, q1, q2, q3, q4, q5⟩ := KZ.out _ HBZ.out
        have TF : Hid (∀ W, Below wd.heap.size wd W → Calls Tryz.prog 23 #[.int .i64 1, .string s, .string p, .agg #[.int .i64 kx, .bool n1, .slice a1 l1 c1, .int .u64 0, .string t1, .slice none 0 0], .agg #[.int .i64 ky, .bool n2, .slice a2 l2 c2, .int .u64 0, .string t2, .slice none 0 0]] W fun e w' => e = .returned (.tuple #[.int .i64 (R.getD 0), .bool ok, .bool true]) ∧ Below W.heap.size W w') := Lib.hid (fun W h => by
          have hv := VX.out W h
          have := textFind1_any s p x y n1 n2 a1 a2 l1 c1 l2 c2 t1 t2 W HSZ.out.1 HSZ.out.2 hv.1 hv.2 HPX.out.1.ok HPX.out.2.ok HPX.out.1 HPX.out.2
          rw [HKX.out, HKY.out]
          refine Calls.mono this ?_
          rintro e w' ⟨hb, rfl⟩
          rw [← HRR.out, HOK.out]
          exact ⟨rfl, hb⟩)
        have T1 : Hid (∀ W, Calls Tryz.prog 23 #[.int .i64 0, .string { data := #[97, 98] }, .string { data := #[98] }, .agg #[.int .i64 0, .bool false, .slice none 0 0, .int .u64 0, .string { data := #[] }, .slice none 0 0], .agg #[.int .i64 0, .bool false, .slice none 0 0, .int .u64 0, .string { data := #[] }, .slice none 0 0]] W fun e w' => e = .returned (.tuple #[.int .i64 1, .bool true, .bool true]) ∧ Below W.heap.size W w') := Lib.hid (fun W => by
          refine (textFind0_any { data := #[97, 98] } { data := #[98] } .non .non false false none none 0 0 0 0 { data := #[] } { data := #[] } W (by decide) (by decide) rfl rfl trivial trivial trivial trivial).mono ?_
          rintro e w' ⟨hb, rfl⟩
          exact ⟨by rw [ab_found]; rfl, hb⟩)
        have NO : Hid (∀ W, Below wc.heap.size wc W → Calls Tryz.prog 9 #[.agg #[.int .i64 kz, .bool nz, .slice az lz cz, .int .u64 0, .string tz, .slice none 0 0]] W fun e w' => e = .returned (.int .i64 (R.getD 0)) ∧ Below W.heap.size W w') := Lib.hid (fun W h => by
          have hp : Pl z := by
            rw [HZZ.out]
            cases hR : R with
            | none => trivial
            | some i =>
              rw [hR] at HRR
              obtain ⟨hi1, hi2⟩ := findR_bd HSZ.out.1 HRR.out.symm
              show -2147483648 ≤ i ∧ i ≤ 2147483647
              omega
          have := numberAns_any z nz az lz cz tz W (HVZ.out.below h) hp
          rw [HKZ.out]
          refine this.mono ?_
          rintro e w' ⟨rfl, hb⟩
          refine ⟨?_, hb⟩
          rw [HZZ.out]
          cases R <;> rfl)
        have KG : Hid (∀ W, Below wc.heap.size wc W → W.cell? ⟨g, 0, none⟩ = some (.int .i64 kz) ∧ W.cell? ⟨g, 1, none⟩ = some (.bool nz) ∧ W.cell? ⟨g, 2, none⟩ = some (.slice az lz cz) ∧ W.cell? ⟨g, 3, none⟩ = some (.int .u64 0) ∧ W.cell? ⟨g, 4, none⟩ = some (.string tz) ∧ W.cell? ⟨g, 5, none⟩ = some (.slice none 0 0)) := Lib.hid (fun W h => (six_ready (w := w) (HKZ1.out.below h HKZ1.out.lt)).1)
        have TF1 := Lib.hid (TF.out _ HBZ.out)
        have FW : Hid (∀ W, Below wc.heap.size wc W → Below w.heap.size w W) := Lib.hid (fun W h => FINB.out _ (HBZ.out.trans (h.mono HBZ.out.size)))
        clear TV AQ1 AQ2 AQ3 KS BZ BZP BZD TF VX KX KZ FINB HRR HZZ HKZ HKX HKY HPX HSZ HKZ1 HVZ HBZ HZ
        go_wp2_with fail
        refine TF1.out.mono ?_
        rintro e w6 ⟨rfl, hb6⟩
        have H6 := Lib.hid hb6
        clear hb6 TF1 p0 p1 p2 p3 p4 p5 q0 q1 q2 q3 q4 q5
        go_wp2_with fail
        refine (T1.out _).mono ?_
        rintro e w7 ⟨rfl, hb7⟩
        have H7 := Lib.hid (H6.out.trans (hb7.mono H6.out.size))
        obtain ⟨p0, p1, p2, p3, p4, p5⟩ := KG.out _ H7.out
        have NO1 := Lib.hid (NO.out _ H7.out)
        clear hb7 T1 NO KG
        cases R with
        | none =>
          obtain rfl : ok = false := HOK.out
          clear NO1
          go_wp2_with fail
          go_ret
          exact ⟨rfl, FW.out _ H7.out⟩
        | some i =>
          obtain rfl : ok = true := HOK.out
          go_wp2_with fail
          refine NO1.out.mono ?_
          rintro e w8 ⟨rfl, hb8⟩
          have H8 := Lib.hid (H7.out.trans (hb8.mono H7.out.size))
          clear hb8 NO1
          go_wp2_with fail
          go_ret
          exact ⟨rfl, FW.out _ H8.out⟩
    · have hm2 : (nn : Int) % 4 = 2 := by have := HR.out; omega
      obtain ⟨R, hR⟩ : ∃ R, R = findR false false s p x y := ⟨_, rfl⟩
      obtain ⟨z, hz⟩ : ∃ z, z = ansS R := ⟨_, rfl⟩
      obtain ⟨kz, hkz⟩ : ∃ kz, kz = z.kind := ⟨_, rfl⟩
      obtain ⟨ok, hok⟩ : ∃ ok, ok = R.isSome := ⟨_, rfl⟩
      have TV : Hid (∀ W, Below wd.heap.size wd W → Calls Tryz.prog 22 #[.string p] W fun e w' => e = .returned (.agg #[.int .i64 4, .bool false, .slice none 0 0, .int .u64 0, .string p, .slice none 0 0]) ∧ Below wd.heap.size wd w' ∧ Below W.heap.size W w') := Lib.hid (fun W h => (textVal_any p W).mono (by rintro e w' ⟨rfl, hb⟩; exact ⟨rfl, h.trans (hb.mono h.size), hb⟩))
      have AQG : Hid (∀ W g, Below wd.heap.size wd W → SArgs W g p x y n1 n2 a1 a2 l1 c1 l2 c2 t1 t2 → Calls Tryz.prog 21 #[.string s, .string ({ data := #[105, 110, 100, 101, 120] } : ByteArray), .slice (some ⟨g, 0, none⟩) 3 3] W fun e w' => ∃ n a l c t, e = .returned (.tuple #[.agg #[.int .i64 kz, .bool n, .slice a l c, .int .u64 0, .string t, .slice none 0 0], .slice none 0 0, .bool ok]) ∧ VaP w' z n a l c t ∧ Below wd.heap.size wd w' ∧ Below W.heap.size W w') := Lib.hid (fun W g h hA => by
        refine (asked_index s p g x y n1 n2 a1 a2 l1 c1 l2 c2 t1 t2 W HSZ.out.1 HSZ.out.2 hA HPX.out.1 HPX.out.2).mono ?_
        rintro e w' ⟨n, a, l, c, t, rfl, hva, hbb⟩
        rw [← hR, ← hz] at hva ⊢
        exact ⟨n, a, l, c, t, by rw [hkz, hok], hva, h.trans (hbb.mono h.size), hbb⟩)
      have SA : Hid (∀ W, Below wd.heap.size wd W → SArgs (W.alloc (.cells #[.int .i64 4, .bool false, .slice none 0 0, .int .u64 0, .string p, .slice none 0 0, .int .i64 kx, .bool n1, .slice a1 l1 c1, .int .u64 0, .string t1, .slice none 0 0, .int .i64 ky, .bool n2, .slice a2 l2 c2, .int .u64 0, .string t2, .slice none 0 0] 26)) W.heap.size p x y n1 n2 a1 a2 l1 c1 l2 c2 t1 t2) := Lib.hid (fun W h => by
        have hk := Blk.new W 26 (([.int .i64 4, .bool false, .slice none 0 0, .int .u64 0, .string p, .slice none 0 0] : List Value) ++ (sc6 x n1 a1 l1 c1 t1 ++ sc6 y n2 a2 l2 c2 t2))
        have hb : Below W.heap.size W (W.alloc (.cells (([.int .i64 4, .bool false, .slice none 0 0, .int .u64 0, .string p, .slice none 0 0] : List Value) ++ (sc6 x n1 a1 l1 c1 t1 ++ sc6 y n2 a2 l2 c2 t2)).toArray 26)) := (Below.refl _ _).alloc (Nat.le_refl _) _
        have hv := VX.out W h
        rw [HKX.out, HKY.out]
        exact ⟨hk, hv.1.below hb, hv.2.below hb⟩)
      have AQ1 : Hid (∀ W, Below wd.heap.size wd W → Calls Tryz.prog 21 #[.string s, .string ({ data := #[105, 110, 100, 101, 120] } : ByteArray), .slice (some ⟨W.heap.size, 0, none⟩) 3 3] (W.alloc (.cells #[.int .i64 4, .bool false, .slice none 0 0, .int .u64 0, .string p, .slice none 0 0, .int .i64 kx, .bool n1, .slice a1 l1 c1, .int .u64 0, .string t1, .slice none 0 0, .int .i64 ky, .bool n2, .slice a2 l2 c2, .int .u64 0, .string t2, .slice none 0 0] 26)) fun e w' => ∃ n a l c t, e = .returned (.tuple #[.agg #[.int .i64 kz, .bool n, .slice a l c, .int .u64 0, .string t, .slice none 0 0], .slice none 0 0, .bool ok]) ∧ VaP w' z n a l c t ∧ Below wd.heap.size wd w' ∧ Below W.heap.size W w') := Lib.hid (fun W h => (AQG.out _ _ (h.alloc h.size _) (SA.out W h)).mono (by
        rintro e w' ⟨n, a, l, c, t, rfl, hva, hb, hbb⟩
        exact ⟨n, a, l, c, t, rfl, hva, hb, (show Below W.heap.size W _ from (Below.refl _ _).alloc (Nat.le_refl _) _).trans (hbb.mono (by simp))⟩))
      have AQ2 : Hid (∀ W, Below wd.heap.size wd W → Calls Tryz.prog 21 #[.string s, .string ({ data := #[105, 110, 100, 101, 120] } : ByteArray), .slice (some ⟨W.heap.size, 0, none⟩) 3 3] ((W.alloc (.cells #[.int .i64 4, .bool false, .slice none 0 0, .int .u64 0, .string p, .slice none 0 0, .int .i64 kx, .bool n1, .slice a1 l1 c1, .int .u64 0, .string t1, .slice none 0 0, .int .i64 ky, .bool n2, .slice a2 l2 c2, .int .u64 0, .string t2, .slice none 0 0] 26)).alloc (.cells #[.int .i64 0, .bool false, .slice none 0 0, .int .u64 0, .string { data := #[] }, .slice none 0 0] 26)) fun e w' => ∃ n a l c t, e = .returned (.tuple #[.agg #[.int .i64 kz, .bool n, .slice a l c, .int .u64 0, .string t, .slice none 0 0], .slice none 0 0, .bool ok]) ∧ VaP w' z n a l c t ∧ Below wd.heap.size wd w' ∧ (Blk w' (W.heap.size + 1) 26 [.int .i64 0, .bool false, .slice none 0 0, .int .u64 0, .string { data := #[] }, .slice none 0 0] ∧ wd.heap.size ≤ W.heap.size + 1)) := Lib.hid (fun W h => (AQG.out _ _ ((h.alloc h.size _).alloc (h.alloc h.size _).size _) ((SA.out W h).below ((Below.refl _ _).alloc (Nat.le_refl _) _))).mono (by
        rintro e w' ⟨n, a, l, c, t, rfl, hva, hb, hbb⟩
        have hk := (blk_zero (W.alloc (.cells #[.int .i64 4, .bool false, .slice none 0 0, .int .u64 0, .string p, .slice none 0 0, .int .i64 kx, .bool n1, .slice a1 l1 c1, .int .u64 0, .string t1, .slice none 0 0, .int .i64 ky, .bool n2, .slice a2 l2 c2, .int .u64 0, .string t2, .slice none 0 0] 26))).below hbb (by simp)
        exact ⟨n, a, l, c, t, rfl, hva, hb, by simpa using hk, by have := h.size; omega⟩))
      have AQ3 : Hid (∀ W, Below wd.heap.size wd W → Calls Tryz.prog 21 #[.string s, .string ({ data := #[105, 110, 100, 101, 120] } : ByteArray), .slice (some ⟨W.heap.size + 1, 0, none⟩) 3 3] ((W.alloc (.cells #[.int .i64 0, .bool false, .slice none 0 0, .int .u64 0, .string { data := #[] }, .slice none 0 0] 26)).alloc (.cells #[.int .i64 4, .bool false, .slice none 0 0, .int .u64 0, .string p, .slice none 0 0, .int .i64 kx, .bool n1, .slice a1 l1 c1, .int .u64 0, .string t1, .slice none 0 0, .int .i64 ky, .bool n2, .slice a2 l2 c2, .int .u64 0, .string t2, .slice none 0 0] 26)) fun e w' => ∃ n a l c t, e = .returned (.tuple #[.agg #[.int .i64 kz, .bool n, .slice a l c, .int .u64 0, .string t, .slice none 0 0], .slice none 0 0, .bool ok]) ∧ VaP w' z n a l c t ∧ Below wd.heap.size wd w' ∧ (Blk w' W.heap.size 26 [.int .i64 0, .bool false, .slice none 0 0, .int .u64 0, .string { data := #[] }, .slice none 0 0] ∧ wd.heap.size ≤ W.heap.size)) := Lib.hid (fun W h => by
        have e0 : (W.alloc (.cells #[.int .i64 0, .bool false, .slice none 0 0, .int .u64 0, .string { data := #[] }, .slice none 0 0] 26)).heap.size = W.heap.size + 1 := by simp
        have h1 := h.alloc h.size (.cells #[.int .i64 0, .bool false, .slice none 0 0, .int .u64 0, .string { data := #[] }, .slice none 0 0] 26)
        have hs := SA.out _ h1
        rw [e0] at hs
        refine (AQG.out _ _ (h1.alloc h1.size _) hs).mono ?_
        rintro e w' ⟨n, a, l, c, t, rfl, hva, hb, hbb⟩
        have hk := ((blk_zero W).alloc (.cells #[.int .i64 4, .bool false, .slice none 0 0, .int .u64 0, .string p, .slice none 0 0, .int .i64 kx, .bool n1, .slice a1 l1 c1, .int .u64 0, .string t1, .slice none 0 0, .int .i64 ky, .bool n2, .slice a2 l2 c2, .int .u64 0, .string t2, .slice none 0 0] 26)).below hbb (by simp; omega)
        exact ⟨n, a, l, c, t, rfl, hva, hb, hk, h.size⟩)
      have KS : Hid (∀ W g v0 v1 v2 v3 v4 v5, Below wd.heap.size wd W → wd.heap.size ≤ g → (fun w' : World => w'.cell? ⟨w.heap.size, 0, none⟩ = some (.int .i64 kx) ∧ w'.cell? ⟨w.heap.size, 1, none⟩ = some (.bool n1) ∧ w'.cell? ⟨w.heap.size, 2, none⟩ = some (.slice a1 l1 c1) ∧ w'.cell? ⟨w.heap.size, 3, none⟩ = some (.int .u64 0) ∧ w'.cell? ⟨w.heap.size, 4, none⟩ = some (.string t1) ∧ w'.cell? ⟨w.heap.size, 5, none⟩ = some (.slice none 0 0) ∧ w'.cell? ⟨w.heap.size + 1, 0, none⟩ = some (.int .i64 ky) ∧ w'.cell? ⟨w.heap.size + 1, 1, none⟩ = some (.bool n2) ∧ w'.cell? ⟨w.heap.size + 1, 2, none⟩ = some (.slice a2 l2 c2) ∧ w'.cell? ⟨w.heap.size + 1, 3, none⟩ = some (.int .u64 0) ∧ w'.cell? ⟨w.heap.size + 1, 4, none⟩ = some (.string t2) ∧ w'.cell? ⟨w.heap.size + 1, 5, none⟩ = some (.slice none 0 0)) ((((((W.setCell ⟨g, 0, none⟩ v0).setCell ⟨g, 1, none⟩ v1).setCell ⟨g, 2, none⟩ v2).setCell ⟨g, 3, none⟩ v3).setCell ⟨g, 4, none⟩ v4).setCell ⟨g, 5, none⟩ v5)) := Lib.hid (fun W g v0 v1 v2 v3 v4 v5 h hg => KZ.out _ ((((((h.setCell hg v0).setCell hg v1).setCell hg v2).setCell hg v3).setCell hg v4).setCell hg v5))
      simp only at KS
      have BZ : Hid (Blk ((wd.alloc (.cells #[.string { data := #[102, 105, 110, 100] }, .string { data := #[114, 102, 105, 110, 100] }, .string { data := #[105, 110, 100, 101, 120] }, .string { data := #[114, 105, 110, 100, 101, 120] }] 9)).alloc (.cells #[.int .i64 0, .bool false, .slice none 0 0, .int .u64 0, .string { data := #[] }, .slice none 0 0] 26)) (wd.heap.size + 1) 26 [.int .i64 0, .bool false, .slice none 0 0, .int .u64 0, .string { data := #[] }, .slice none 0 0]) := Lib.hid (by
        have h := blk_zero (wd.alloc (.cells #[.string { data := #[102, 105, 110, 100] }, .string { data := #[114, 102, 105, 110, 100] }, .string { data := #[105, 110, 100, 101, 120] }, .string { data := #[114, 105, 110, 100, 101, 120] }] 9))
        simpa using h)
      have BZP : Hid (∀ W', Below ((wd.alloc (.cells #[.string { data := #[102, 105, 110, 100] }, .string { data := #[114, 102, 105, 110, 100] }, .string { data := #[105, 110, 100, 101, 120] }, .string { data := #[114, 105, 110, 100, 101, 120] }] 9)).alloc (.cells #[.int .i64 0, .bool false, .slice none 0 0, .int .u64 0, .string { data := #[] }, .slice none 0 0] 26)).heap.size ((wd.alloc (.cells #[.string { data := #[102, 105, 110, 100] }, .string { data := #[114, 102, 105, 110, 100] }, .string { data := #[105, 110, 100, 101, 120] }, .string { data := #[114, 105, 110, 100, 101, 120] }] 9)).alloc (.cells #[.int .i64 0, .bool false, .slice none 0 0, .int .u64 0, .string { data := #[] }, .slice none 0 0] 26)) W' → Blk W' (wd.heap.size + 1) 26 [.int .i64 0, .bool false, .slice none 0 0, .int .u64 0, .string { data := #[] }, .slice none 0 0]) := Lib.hid (fun W' h => BZ.out.below h BZ.out.lt)
      have BZD : Hid (∀ W', Below ((wd.alloc (.cells #[.string { data := #[102, 105, 110, 100] }, .string { data := #[114, 102, 105, 110, 100] }, .string { data := #[105, 110, 100, 101, 120] }, .string { data := #[114, 105, 110, 100, 101, 120] }] 9)).alloc (.cells #[.int .i64 0, .bool false, .slice none 0 0, .int .u64 0, .string { data := #[] }, .slice none 0 0] 26)).drew.heap.size ((wd.alloc (.cells #[.string { data := #[102, 105, 110, 100] }, .string { data := #[114, 102, 105, 110, 100] }, .string { data := #[105, 110, 100, 101, 120] }, .string { data := #[114, 105, 110, 100, 101, 120] }] 9)).alloc (.cells #[.int .i64 0, .bool false, .slice none 0 0, .int .u64 0, .string { data := #[] }, .slice none 0 0] 26)).drew W' → Blk W' (wd.heap.size + 1) 26 [.int .i64 0, .bool false, .slice none 0 0, .int .u64 0, .string { data := #[] }, .slice none 0 0]) := Lib.hid (fun W' h => Blk.below (w := ((wd.alloc (.cells #[.string { data := #[102, 105, 110, 100] }, .string { data := #[114, 102, 105, 110, 100] }, .string { data := #[105, 110, 100, 101, 120] }, .string { data := #[114, 105, 110, 100, 101, 120] }] 9)).alloc (.cells #[.int .i64 0, .bool false, .slice none 0 0, .int .u64 0, .string { data := #[] }, .slice none 0 0] 26)).drew) BZ.out h BZ.out.lt)
      have HRR := Lib.hid hR; have HZZ := Lib.hid hz; have HKZ := Lib.hid hkz; have HOK := Lib.hid hok
      clear AQG SA hR hz hkz hok
      go_upto_region 5 with fail
      go_cut [14, 15, 16] from 49 to 65 (fun u v1 v2 wx => ∃ g, u = .pointer (some ⟨g, 0, none⟩) ∧ v1 = .slice none 0 0 ∧ v2 = .bool ok ∧ AqRel wd z g wx)
      case first =>
        go_region_held3 (fun w' => w'.cell? ⟨w.heap.size, 0, none⟩ = some (.int .i64 kx) ∧ w'.cell? ⟨w.heap.size, 1, none⟩ = some (.bool n1) ∧ w'.cell? ⟨w.heap.size, 2, none⟩ = some (.slice a1 l1 c1) ∧ w'.cell? ⟨w.heap.size, 3, none⟩ = some (.int .u64 0) ∧ w'.cell? ⟨w.heap.size, 4, none⟩ = some (.string t1) ∧ w'.cell? ⟨w.heap.size, 5, none⟩ = some (.slice none 0 0) ∧ w'.cell? ⟨w.heap.size + 1, 0, none⟩ = some (.int .i64 ky) ∧ w'.cell? ⟨w.heap.size + 1, 1, none⟩ = some (.bool n2) ∧ w'.cell? ⟨w.heap.size + 1, 2, none⟩ = some (.slice a2 l2 c2) ∧ w'.cell? ⟨w.heap.size + 1, 3, none⟩ = some (.int .u64 0) ∧ w'.cell? ⟨w.heap.size + 1, 4, none⟩ = some (.string t2) ∧ w'.cell? ⟨w.heap.size + 1, 5, none⟩ = some (.slice none 0 0)) (with_reducible first | exact KZ.out _ HZ.out | exact KZ.out _ (below_drew1 HZ.out) | exact KZ.out _ (HZ.out.alloc HZ.out.size _) | exact KZ.out _ (below_drew1 (HZ.out.alloc HZ.out.size _)) | exact KZ.out _ ((HZ.out.alloc HZ.out.size _).alloc (HZ.out.alloc HZ.out.size _).size _) | exact KZ.out _ (below_drew1 ((HZ.out.alloc HZ.out.size _).alloc (HZ.out.alloc HZ.out.size _).size _)) | exact KS.out _ _ _ _ _ _ _ _ HZ.out HG.out) ((first | (go_at_call 22; (first | ((first | (with_reducible refine (TV.out _ (below_drew1 (HZ.out.alloc HZ.out.size _))).mono ?_) | (with_reducible refine (TV.out _ (HZ.out.alloc HZ.out.size _)).mono ?_)); rintro e w4 ⟨rfl, hb4, hbb4⟩; have HZ := Lib.hid hb4; clear hb4 hbb4) | ((with_reducible refine (TV.out _ (below_drew1 ((HZ.out.alloc HZ.out.size _).alloc (HZ.out.alloc HZ.out.size _).size _))).mono ?_); rintro e w4 ⟨rfl, hb4, hbb4⟩; have B14 := Lib.hid (BZD.out _ hbb4); have HZ := Lib.hid hb4; clear hb4 hbb4) | ((with_reducible refine (TV.out _ ((HZ.out.alloc HZ.out.size _).alloc (HZ.out.alloc HZ.out.size _).size _)).mono ?_); rintro e w4 ⟨rfl, hb4, hbb4⟩; have B14 := Lib.hid (BZP.out _ hbb4); have HZ := Lib.hid hb4; clear hb4 hbb4))) | (go_at_call 21; (first | ((with_reducible refine (AQ1.out _ HZ.out).mono ?_); rintro e w5 ⟨n, a, l, c, t, rfl, hva, hb5, hbb5⟩; have FIN := Lib.hid (aq_new hva hb5); rw [← HKZ.out] at FIN; (try (have hk := B14.out.below hbb5 B14.out.lt; obtain ⟨⟨z0, z1, z2, z3, z4, z5⟩, y0, y1, y2, y3, y4, y5⟩ := six_ready (w := w) hk; have lz := hk.lt; have HG : Hid (wd.heap.size ≤ wd.heap.size + 1) := Lib.hid (Nat.le_succ _); have FIN := Lib.hid (aq_store hk hva hb5 HG.out); rw [← HKZ.out] at FIN; clear hk)); have HZ := Lib.hid hb5; clear hva hb5 hbb5) | ((with_reducible refine (AQ2.out _ HZ.out).mono ?_); rintro e w5 ⟨n, a, l, c, t, rfl, hva, hb5, hk, hg⟩; obtain ⟨⟨z0, z1, z2, z3, z4, z5⟩, y0, y1, y2, y3, y4, y5⟩ := six_ready (w := w) hk; have lz := hk.lt; have HG := Lib.hid hg; have FIN := Lib.hid (aq_store hk hva hb5 hg); rw [← HKZ.out] at FIN; have HZ := Lib.hid hb5; clear hva hb5 hk hg) | ((with_reducible refine (AQ3.out _ HZ.out).mono ?_); rintro e w5 ⟨n, a, l, c, t, rfl, hva, hb5, hk, hg⟩; obtain ⟨⟨z0, z1, z2, z3, z4, z5⟩, y0, y1, y2, y3, y4, y5⟩ := six_ready (w := w) hk; have lz := hk.lt; have HG := Lib.hid hg; have FIN := Lib.hid (aq_store hk hva hb5 hg); rw [← HKZ.out] at FIN; have HZ := Lib.hid hb5; clear hva hb5 hk hg)))))
        all_goals (go_wp2_with fail; go_meet; exact ⟨_, rfl, rfl, rfl, FIN.out⟩)
      case rest =>
        obtain ⟨g, rfl, rfl, rfl, nz, az, lz, cz, tz, HKZ1, HVZ, HBZ⟩ := hcut
        rw [← HKZ.out] at HKZ1
        obtain ⟨p0, p1, p2, p3, p4, p5, q0, q1, q2, q3, q4, q5⟩ := KZ.out _ HBZ.out
        have TF : Hid (∀ W, Below wd.heap.size wd W → Calls Tryz.prog 23 #[.int .i64 2, .string s, .string p, .agg #[.int .i64 kx, .bool n1, .slice a1 l1 c1, .int .u64 0, .string t1, .slice none 0 0], .agg #[.int .i64 ky, .bool n2, .slice a2 l2 c2, .int .u64 0, .string t2, .slice none 0 0]] W fun e w' => e = .returned (.tuple #[.int .i64 (R.getD 0), .bool ok, .bool true]) ∧ Below W.heap.size W w') := Lib.hid (fun W h => by
          have hv := VX.out W h
          have := textFind2_any s p x y n1 n2 a1 a2 l1 c1 l2 c2 t1 t2 W HSZ.out.1 HSZ.out.2 hv.1 hv.2 HPX.out.1.ok HPX.out.2.ok HPX.out.1 HPX.out.2
          rw [HKX.out, HKY.out]
          refine Calls.mono this ?_
          rintro e w' ⟨hb, rfl⟩
          rw [← HRR.out, HOK.out]
          exact ⟨rfl, hb⟩)
        have T1 : Hid (∀ W, Calls Tryz.prog 23 #[.int .i64 0, .string { data := #[97, 98] }, .string { data := #[98] }, .agg #[.int .i64 0, .bool false, .slice none 0 0, .int .u64 0, .string { data := #[] }, .slice none 0 0], .agg #[.int .i64 0, .bool false, .slice none 0 0, .int .u64 0, .string { data := #[] }, .slice none 0 0]] W fun e w' => e = .returned (.tuple #[.int .i64 1, .bool true, .bool true]) ∧ Below W.heap.size W w') := Lib.hid (fun W => by
          refine (textFind0_any { data := #[97, 98] } { data := #[98] } .non .non false false none none 0 0 0 0 { data := #[] } { data := #[] } W (by decide) (by decide) rfl rfl trivial trivial trivial trivial).mono ?_
          rintro e w' ⟨hb, rfl⟩
          exact ⟨by rw [ab_found]; rfl, hb⟩)
        have NO : Hid (∀ W, Below wc.heap.size wc W → Calls Tryz.prog 9 #[.agg #[.int .i64 kz, .bool nz, .slice az lz cz, .int .u64 0, .string tz, .slice none 0 0]] W fun e w' => e = .returned (.int .i64 (R.getD 0)) ∧ Below W.heap.size W w') := Lib.hid (fun W h => by
          have hp : Pl z := by
            rw [HZZ.out]
            cases hR : R with
            | none => trivial
            | some i =>
              rw [hR] at HRR
              obtain ⟨hi1, hi2⟩ := findR_bd HSZ.out.1 HRR.out.symm
              show -2147483648 ≤ i ∧ i ≤ 2147483647
              omega
          have := numberAns_any z nz az lz cz tz W (HVZ.out.below h) hp
          rw [HKZ.out]
          refine this.mono ?_
          rintro e w' ⟨rfl, hb⟩
          refine ⟨?_, hb⟩
          rw [HZZ.out]
          cases R <;> rfl)
        have KG : Hid (∀ W, Below wc.heap.size wc W → W.cell? ⟨g, 0, none⟩ = some (.int .i64 kz) ∧ W.cell? ⟨g, 1, none⟩ = some (.bool nz) ∧ W.cell? ⟨g, 2, none⟩ = some (.slice az lz cz) ∧ W.cell? ⟨g, 3, none⟩ = some (.int .u64 0) ∧ W.cell? ⟨g, 4, none⟩ = some (.string tz) ∧ W.cell? ⟨g, 5, none⟩ = some (.slice none 0 0)) := Lib.hid (fun W h => (six_ready (w := w) (HKZ1.out.below h HKZ1.out.lt)).1)
        have TF1 := Lib.hid (TF.out _ HBZ.out)
        have FW : Hid (∀ W, Below wc.heap.size wc W → Below w.heap.size w W) := Lib.hid (fun W h => FINB.out _ (HBZ.out.trans (h.mono HBZ.out.size)))
        clear TV AQ1 AQ2 AQ3 KS BZ BZP BZD TF VX KX KZ FINB HRR HZZ HKZ HKX HKY HPX HSZ HKZ1 HVZ HBZ HZ
        go_wp2_with fail
        refine TF1.out.mono ?_
        rintro e w6 ⟨rfl, hb6⟩
        have H6 := Lib.hid hb6
        clear hb6 TF1 p0 p1 p2 p3 p4 p5 q0 q1 q2 q3 q4 q5
        go_wp2_with fail
        refine (T1.out _).mono ?_
        rintro e w7 ⟨rfl, hb7⟩
        have H7 := Lib.hid (H6.out.trans (hb7.mono H6.out.size))
        obtain ⟨p0, p1, p2, p3, p4, p5⟩ := KG.out _ H7.out
        have NO1 := Lib.hid (NO.out _ H7.out)
        clear hb7 T1 NO KG
        cases R with
        | none =>
          obtain rfl : ok = false := HOK.out
          clear NO1
          go_wp2_with fail
          go_ret
          exact ⟨rfl, FW.out _ H7.out⟩
        | some i =>
          obtain rfl : ok = true := HOK.out
          go_wp2_with fail
          refine NO1.out.mono ?_
          rintro e w8 ⟨rfl, hb8⟩
          have H8 := Lib.hid (H7.out.trans (hb8.mono H7.out.size))
          clear hb8 NO1
          go_wp2_with fail
          go_ret
          exact ⟨rfl, FW.out _ H8.out⟩
    · have hm2 : (nn : Int) % 4 = 3 := by have := HR.out; omega
      obtain ⟨R, hR⟩ : ∃ R, R = findR false true s p x y := ⟨_, rfl⟩
      obtain ⟨z, hz⟩ : ∃ z, z = ansS R := ⟨_, rfl⟩
      obtain ⟨kz, hkz⟩ : ∃ kz, kz = z.kind := ⟨_, rfl⟩
      obtain ⟨ok, hok⟩ : ∃ ok, ok = R.isSome := ⟨_, rfl⟩
      have TV : Hid (∀ W, Below wd.heap.size wd W → Calls Tryz.prog 22 #[.string p] W fun e w' => e = .returned (.agg #[.int .i64 4, .bool false, .slice none 0 0, .int .u64 0, .string p, .slice none 0 0]) ∧ Below wd.heap.size wd w' ∧ Below W.heap.size W w') := Lib.hid (fun W h => (textVal_any p W).mono (by rintro e w' ⟨rfl, hb⟩; exact ⟨rfl, h.trans (hb.mono h.size), hb⟩))
      have AQG : Hid (∀ W g, Below wd.heap.size wd W → SArgs W g p x y n1 n2 a1 a2 l1 c1 l2 c2 t1 t2 → Calls Tryz.prog 21 #[.string s, .string ({ data := #[114, 105, 110, 100, 101, 120] } : ByteArray), .slice (some ⟨g, 0, none⟩) 3 3] W fun e w' => ∃ n a l c t, e = .returned (.tuple #[.agg #[.int .i64 kz, .bool n, .slice a l c, .int .u64 0, .string t, .slice none 0 0], .slice none 0 0, .bool ok]) ∧ VaP w' z n a l c t ∧ Below wd.heap.size wd w' ∧ Below W.heap.size W w') := Lib.hid (fun W g h hA => by
        refine (asked_rindex s p g x y n1 n2 a1 a2 l1 c1 l2 c2 t1 t2 W HSZ.out.1 HSZ.out.2 hA HPX.out.1 HPX.out.2).mono ?_
        rintro e w' ⟨n, a, l, c, t, rfl, hva, hbb⟩
        rw [← hR, ← hz] at hva ⊢
        exact ⟨n, a, l, c, t, by rw [hkz, hok], hva, h.trans (hbb.mono h.size), hbb⟩)
      have SA : Hid (∀ W, Below wd.heap.size wd W → SArgs (W.alloc (.cells #[.int .i64 4, .bool false, .slice none 0 0, .int .u64 0, .string p, .slice none 0 0, .int .i64 kx, .bool n1, .slice a1 l1 c1, .int .u64 0, .string t1, .slice none 0 0, .int .i64 ky, .bool n2, .slice a2 l2 c2, .int .u64 0, .string t2, .slice none 0 0] 26)) W.heap.size p x y n1 n2 a1 a2 l1 c1 l2 c2 t1 t2) := Lib.hid (fun W h => by
        have hk := Blk.new W 26 (([.int .i64 4, .bool false, .slice none 0 0, .int .u64 0, .string p, .slice none 0 0] : List Value) ++ (sc6 x n1 a1 l1 c1 t1 ++ sc6 y n2 a2 l2 c2 t2))
        have hb : Below W.heap.size W (W.alloc (.cells (([.int .i64 4, .bool false, .slice none 0 0, .int .u64 0, .string p, .slice none 0 0] : List Value) ++ (sc6 x n1 a1 l1 c1 t1 ++ sc6 y n2 a2 l2 c2 t2)).toArray 26)) := (Below.refl _ _).alloc (Nat.le_refl _) _
        have hv := VX.out W h
        rw [HKX.out, HKY.out]
        exact ⟨hk, hv.1.below hb, hv.2.below hb⟩)
      have AQ1 : Hid (∀ W, Below wd.heap.size wd W → Calls Tryz.prog 21 #[.string s, .string ({ data := #[114, 105, 110, 100, 101, 120] } : ByteArray), .slice (some ⟨W.heap.size, 0, none⟩) 3 3] (W.alloc (.cells #[.int .i64 4, .bool false, .slice none 0 0, .int .u64 0, .string p, .slice none 0 0, .int .i64 kx, .bool n1, .slice a1 l1 c1, .int .u64 0, .string t1, .slice none 0 0, .int .i64 ky, .bool n2, .slice a2 l2 c2, .int .u64 0, .string t2, .slice none 0 0] 26)) fun e w' => ∃ n a l c t, e = .returned (.tuple #[.agg #[.int .i64 kz, .bool n, .slice a l c, .int .u64 0, .string t, .slice none 0 0], .slice none 0 0, .bool ok]) ∧ VaP w' z n a l c t ∧ Below wd.heap.size wd w' ∧ Below W.heap.size W w') := Lib.hid (fun W h => (AQG.out _ _ (h.alloc h.size _) (SA.out W h)).mono (by
        rintro e w' ⟨n, a, l, c, t, rfl, hva, hb, hbb⟩
        exact ⟨n, a, l, c, t, rfl, hva, hb, (show Below W.heap.size W _ from (Below.refl _ _).alloc (Nat.le_refl _) _).trans (hbb.mono (by simp))⟩))
      have AQ2 : Hid (∀ W, Below wd.heap.size wd W → Calls Tryz.prog 21 #[.string s, .string ({ data := #[114, 105, 110, 100, 101, 120] } : ByteArray), .slice (some ⟨W.heap.size, 0, none⟩) 3 3] ((W.alloc (.cells #[.int .i64 4, .bool false, .slice none 0 0, .int .u64 0, .string p, .slice none 0 0, .int .i64 kx, .bool n1, .slice a1 l1 c1, .int .u64 0, .string t1, .slice none 0 0, .int .i64 ky, .bool n2, .slice a2 l2 c2, .int .u64 0, .string t2, .slice none 0 0] 26)).alloc (.cells #[.int .i64 0, .bool false, .slice none 0 0, .int .u64 0, .string { data := #[] }, .slice none 0 0] 26)) fun e w' => ∃ n a l c t, e = .returned (.tuple #[.agg #[.int .i64 kz, .bool n, .slice a l c, .int .u64 0, .string t, .slice none 0 0], .slice none 0 0, .bool ok]) ∧ VaP w' z n a l c t ∧ Below wd.heap.size wd w' ∧ (Blk w' (W.heap.size + 1) 26 [.int .i64 0, .bool false, .slice none 0 0, .int .u64 0, .string { data := #[] }, .slice none 0 0] ∧ wd.heap.size ≤ W.heap.size + 1)) := Lib.hid (fun W h => (AQG.out _ _ ((h.alloc h.size _).alloc (h.alloc h.size _).size _) ((SA.out W h).below ((Below.refl _ _).alloc (Nat.le_refl _) _))).mono (by
        rintro e w' ⟨n, a, l, c, t, rfl, hva, hb, hbb⟩
        have hk := (blk_zero (W.alloc (.cells #[.int .i64 4, .bool false, .slice none 0 0, .int .u64 0, .string p, .slice none 0 0, .int .i64 kx, .bool n1, .slice a1 l1 c1, .int .u64 0, .string t1, .slice none 0 0, .int .i64 ky, .bool n2, .slice a2 l2 c2, .int .u64 0, .string t2, .slice none 0 0] 26))).below hbb (by simp)
        exact ⟨n, a, l, c, t, rfl, hva, hb, by simpa using hk, by have := h.size; omega⟩))
      have AQ3 : Hid (∀ W, Below wd.heap.size wd W → Calls Tryz.prog 21 #[.string s, .string ({ data := #[114, 105, 110, 100, 101, 120] } : ByteArray), .slice (some ⟨W.heap.size + 1, 0, none⟩) 3 3] ((W.alloc (.cells #[.int .i64 0, .bool false, .slice none 0 0, .int .u64 0, .string { data := #[] }, .slice none 0 0] 26)).alloc (.cells #[.int .i64 4, .bool false, .slice none 0 0, .int .u64 0, .string p, .slice none 0 0, .int .i64 kx, .bool n1, .slice a1 l1 c1, .int .u64 0, .string t1, .slice none 0 0, .int .i64 ky, .bool n2, .slice a2 l2 c2, .int .u64 0, .string t2, .slice none 0 0] 26)) fun e w' => ∃ n a l c t, e = .returned (.tuple #[.agg #[.int .i64 kz, .bool n, .slice a l c, .int .u64 0, .string t, .slice none 0 0], .slice none 0 0, .bool ok]) ∧ VaP w' z n a l c t ∧ Below wd.heap.size wd w' ∧ (Blk w' W.heap.size 26 [.int .i64 0, .bool false, .slice none 0 0, .int .u64 0, .string { data := #[] }, .slice none 0 0] ∧ wd.heap.size ≤ W.heap.size)) := Lib.hid (fun W h => by
        have e0 : (W.alloc (.cells #[.int .i64 0, .bool false, .slice none 0 0, .int .u64 0, .string { data := #[] }, .slice none 0 0] 26)).heap.size = W.heap.size + 1 := by simp
        have h1 := h.alloc h.size (.cells #[.int .i64 0, .bool false, .slice none 0 0, .int .u64 0, .string { data := #[] }, .slice none 0 0] 26)
        have hs := SA.out _ h1
        rw [e0] at hs
        refine (AQG.out _ _ (h1.alloc h1.size _) hs).mono ?_
        rintro e w' ⟨n, a, l, c, t, rfl, hva, hb, hbb⟩
        have hk := ((blk_zero W).alloc (.cells #[.int .i64 4, .bool false, .slice none 0 0, .int .u64 0, .string p, .slice none 0 0, .int .i64 kx, .bool n1, .slice a1 l1 c1, .int .u64 0, .string t1, .slice none 0 0, .int .i64 ky, .bool n2, .slice a2 l2 c2, .int .u64 0, .string t2, .slice none 0 0] 26)).below hbb (by simp; omega)
        exact ⟨n, a, l, c, t, rfl, hva, hb, hk, h.size⟩)
      have KS : Hid (∀ W g v0 v1 v2 v3 v4 v5, Below wd.heap.size wd W → wd.heap.size ≤ g → (fun w' : World => w'.cell? ⟨w.heap.size, 0, none⟩ = some (.int .i64 kx) ∧ w'.cell? ⟨w.heap.size, 1, none⟩ = some (.bool n1) ∧ w'.cell? ⟨w.heap.size, 2, none⟩ = some (.slice a1 l1 c1) ∧ w'.cell? ⟨w.heap.size, 3, none⟩ = some (.int .u64 0) ∧ w'.cell? ⟨w.heap.size, 4, none⟩ = some (.string t1) ∧ w'.cell? ⟨w.heap.size, 5, none⟩ = some (.slice none 0 0) ∧ w'.cell? ⟨w.heap.size + 1, 0, none⟩ = some (.int .i64 ky) ∧ w'.cell? ⟨w.heap.size + 1, 1, none⟩ = some (.bool n2) ∧ w'.cell? ⟨w.heap.size + 1, 2, none⟩ = some (.slice a2 l2 c2) ∧ w'.cell? ⟨w.heap.size + 1, 3, none⟩ = some (.int .u64 0) ∧ w'.cell? ⟨w.heap.size + 1, 4, none⟩ = some (.string t2) ∧ w'.cell? ⟨w.heap.size + 1, 5, none⟩ = some (.slice none 0 0)) ((((((W.setCell ⟨g, 0, none⟩ v0).setCell ⟨g, 1, none⟩ v1).setCell ⟨g, 2, none⟩ v2).setCell ⟨g, 3, none⟩ v3).setCell ⟨g, 4, none⟩ v4).setCell ⟨g, 5, none⟩ v5)) := Lib.hid (fun W g v0 v1 v2 v3 v4 v5 h hg => KZ.out _ ((((((h.setCell hg v0).setCell hg v1).setCell hg v2).setCell hg v3).setCell hg v4).setCell hg v5))
      simp only at KS
      have BZ : Hid (Blk ((wd.alloc (.cells #[.string { data := #[102, 105, 110, 100] }, .string { data := #[114, 102, 105, 110, 100] }, .string { data := #[105, 110, 100, 101, 120] }, .string { data := #[114, 105, 110, 100, 101, 120] }] 9)).alloc (.cells #[.int .i64 0, .bool false, .slice none 0 0, .int .u64 0, .string { data := #[] }, .slice none 0 0] 26)) (wd.heap.size + 1) 26 [.int .i64 0, .bool false, .slice none 0 0, .int .u64 0, .string { data := #[] }, .slice none 0 0]) := Lib.hid (by
        have h := blk_zero (wd.alloc (.cells #[.string { data := #[102, 105, 110, 100] }, .string { data := #[114, 102, 105, 110, 100] }, .string { data := #[105, 110, 100, 101, 120] }, .string { data := #[114, 105, 110, 100, 101, 120] }] 9))
        simpa using h)
      have BZP : Hid (∀ W', Below ((wd.alloc (.cells #[.string { data := #[102, 105, 110, 100] }, .string { data := #[114, 102, 105, 110, 100] }, .string { data := #[105, 110, 100, 101, 120] }, .string { data := #[114, 105, 110, 100, 101, 120] }] 9)).alloc (.cells #[.int .i64 0, .bool false, .slice none 0 0, .int .u64 0, .string { data := #[] }, .slice none 0 0] 26)).heap.size ((wd.alloc (.cells #[.string { data := #[102, 105, 110, 100] }, .string { data := #[114, 102, 105, 110, 100] }, .string { data := #[105, 110, 100, 101, 120] }, .string { data := #[114, 105, 110, 100, 101, 120] }] 9)).alloc (.cells #[.int .i64 0, .bool false, .slice none 0 0, .int .u64 0, .string { data := #[] }, .slice none 0 0] 26)) W' → Blk W' (wd.heap.size + 1) 26 [.int .i64 0, .bool false, .slice none 0 0, .int .u64 0, .string { data := #[] }, .slice none 0 0]) := Lib.hid (fun W' h => BZ.out.below h BZ.out.lt)
      have BZD : Hid (∀ W', Below ((wd.alloc (.cells #[.string { data := #[102, 105, 110, 100] }, .string { data := #[114, 102, 105, 110, 100] }, .string { data := #[105, 110, 100, 101, 120] }, .string { data := #[114, 105, 110, 100, 101, 120] }] 9)).alloc (.cells #[.int .i64 0, .bool false, .slice none 0 0, .int .u64 0, .string { data := #[] }, .slice none 0 0] 26)).drew.heap.size ((wd.alloc (.cells #[.string { data := #[102, 105, 110, 100] }, .string { data := #[114, 102, 105, 110, 100] }, .string { data := #[105, 110, 100, 101, 120] }, .string { data := #[114, 105, 110, 100, 101, 120] }] 9)).alloc (.cells #[.int .i64 0, .bool false, .slice none 0 0, .int .u64 0, .string { data := #[] }, .slice none 0 0] 26)).drew W' → Blk W' (wd.heap.size + 1) 26 [.int .i64 0, .bool false, .slice none 0 0, .int .u64 0, .string { data := #[] }, .slice none 0 0]) := Lib.hid (fun W' h => Blk.below (w := ((wd.alloc (.cells #[.string { data := #[102, 105, 110, 100] }, .string { data := #[114, 102, 105, 110, 100] }, .string { data := #[105, 110, 100, 101, 120] }, .string { data := #[114, 105, 110, 100, 101, 120] }] 9)).alloc (.cells #[.int .i64 0, .bool false, .slice none 0 0, .int .u64 0, .string { data := #[] }, .slice none 0 0] 26)).drew) BZ.out h BZ.out.lt)
      have HRR := Lib.hid hR; have HZZ := Lib.hid hz; have HKZ := Lib.hid hkz; have HOK := Lib.hid hok
      clear AQG SA hR hz hkz hok
      go_upto_region 5 with fail
      go_cut [14, 15, 16] from 49 to 65 (fun u v1 v2 wx => ∃ g, u = .pointer (some ⟨g, 0, none⟩) ∧ v1 = .slice none 0 0 ∧ v2 = .bool ok ∧ AqRel wd z g wx)
      case first =>
        go_region_held3 (fun w' => w'.cell? ⟨w.heap.size, 0, none⟩ = some (.int .i64 kx) ∧ w'.cell? ⟨w.heap.size, 1, none⟩ = some (.bool n1) ∧ w'.cell? ⟨w.heap.size, 2, none⟩ = some (.slice a1 l1 c1) ∧ w'.cell? ⟨w.heap.size, 3, none⟩ = some (.int .u64 0) ∧ w'.cell? ⟨w.heap.size, 4, none⟩ = some (.string t1) ∧ w'.cell? ⟨w.heap.size, 5, none⟩ = some (.slice none 0 0) ∧ w'.cell? ⟨w.heap.size + 1, 0, none⟩ = some (.int .i64 ky) ∧ w'.cell? ⟨w.heap.size + 1, 1, none⟩ = some (.bool n2) ∧ w'.cell? ⟨w.heap.size + 1, 2, none⟩ = some (.slice a2 l2 c2) ∧ w'.cell? ⟨w.heap.size + 1, 3, none⟩ = some (.int .u64 0) ∧ w'.cell? ⟨w.heap.size + 1, 4, none⟩ = some (.string t2) ∧ w'.cell? ⟨w.heap.size + 1, 5, none⟩ = some (.slice none 0 0)) (with_reducible first | exact KZ.out _ HZ.out | exact KZ.out _ (below_drew1 HZ.out) | exact KZ.out _ (HZ.out.alloc HZ.out.size _) | exact KZ.out _ (below_drew1 (HZ.out.alloc HZ.out.size _)) | exact KZ.out _ ((HZ.out.alloc HZ.out.size _).alloc (HZ.out.alloc HZ.out.size _).size _) | exact KZ.out _ (below_drew1 ((HZ.out.alloc HZ.out.size _).alloc (HZ.out.alloc HZ.out.size _).size _)) | exact KS.out _ _ _ _ _ _ _ _ HZ.out HG.out) ((first | (go_at_call 22; (first | ((first | (with_reducible refine (TV.out _ (below_drew1 (HZ.out.alloc HZ.out.size _))).mono ?_) | (with_reducible refine (TV.out _ (HZ.out.alloc HZ.out.size _)).mono ?_)); rintro e w4 ⟨rfl, hb4, hbb4⟩; have HZ := Lib.hid hb4; clear hb4 hbb4) | ((with_reducible refine (TV.out _ (below_drew1 ((HZ.out.alloc HZ.out.size _).alloc (HZ.out.alloc HZ.out.size _).size _))).mono ?_); rintro e w4 ⟨rfl, hb4, hbb4⟩; have B14 := Lib.hid (BZD.out _ hbb4); have HZ := Lib.hid hb4; clear hb4 hbb4) | ((with_reducible refine (TV.out _ ((HZ.out.alloc HZ.out.size _).alloc (HZ.out.alloc HZ.out.size _).size _)).mono ?_); rintro e w4 ⟨rfl, hb4, hbb4⟩; have B14 := Lib.hid (BZP.out _ hbb4); have HZ := Lib.hid hb4; clear hb4 hbb4))) | (go_at_call 21; (first | ((with_reducible refine (AQ1.out _ HZ.out).mono ?_); rintro e w5 ⟨n, a, l, c, t, rfl, hva, hb5, hbb5⟩; have FIN := Lib.hid (aq_new hva hb5); rw [← HKZ.out] at FIN; (try (have hk := B14.out.below hbb5 B14.out.lt; obtain ⟨⟨z0, z1, z2, z3, z4, z5⟩, y0, y1, y2, y3, y4, y5⟩ := six_ready (w := w) hk; have lz := hk.lt; have HG : Hid (wd.heap.size ≤ wd.heap.size + 1) := Lib.hid (Nat.le_succ _); have FIN := Lib.hid (aq_store hk hva hb5 HG.out); rw [← HKZ.out] at FIN; clear hk)); have HZ := Lib.hid hb5; clear hva hb5 hbb5) | ((with_reducible refine (AQ2.out _ HZ.out).mono ?_); rintro e w5 ⟨n, a, l, c, t, rfl, hva, hb5, hk, hg⟩; obtain ⟨⟨z0, z1, z2, z3, z4, z5⟩, y0, y1, y2, y3, y4, y5⟩ := six_ready (w := w) hk; have lz := hk.lt; have HG := Lib.hid hg; have FIN := Lib.hid (aq_store hk hva hb5 hg); rw [← HKZ.out] at FIN; have HZ := Lib.hid hb5; clear hva hb5 hk hg) | ((with_reducible refine (AQ3.out _ HZ.out).mono ?_); rintro e w5 ⟨n, a, l, c, t, rfl, hva, hb5, hk, hg⟩; obtain ⟨⟨z0, z1, z2, z3, z4, z5⟩, y0, y1, y2, y3, y4, y5⟩ := six_ready (w := w) hk; have lz := hk.lt; have HG := Lib.hid hg; have FIN := Lib.hid (aq_store hk hva hb5 hg); rw [← HKZ.out] at FIN; have HZ := Lib.hid hb5; clear hva hb5 hk hg)))))
        all_goals (go_wp2_with fail; go_meet; exact ⟨_, rfl, rfl, rfl, FIN.out⟩)
      case rest =>
        obtain ⟨g, rfl, rfl, rfl, nz, az, lz, cz, tz, HKZ1, HVZ, HBZ⟩ := hcut
        rw [← HKZ.out] at HKZ1
        obtain ⟨p0, p1, p2, p3, p4, p5, q0, q1, q2, q3, q4, q5⟩ := KZ.out _ HBZ.out
        have TF : Hid (∀ W, Below wd.heap.size wd W → Calls Tryz.prog 23 #[.int .i64 3, .string s, .string p, .agg #[.int .i64 kx, .bool n1, .slice a1 l1 c1, .int .u64 0, .string t1, .slice none 0 0], .agg #[.int .i64 ky, .bool n2, .slice a2 l2 c2, .int .u64 0, .string t2, .slice none 0 0]] W fun e w' => e = .returned (.tuple #[.int .i64 (R.getD 0), .bool ok, .bool true]) ∧ Below W.heap.size W w') := Lib.hid (fun W h => by
          have hv := VX.out W h
          have := textFind3_any s p x y n1 n2 a1 a2 l1 c1 l2 c2 t1 t2 W HSZ.out.1 HSZ.out.2 hv.1 hv.2 HPX.out.1.ok HPX.out.2.ok HPX.out.1 HPX.out.2
          rw [HKX.out, HKY.out]
          refine Calls.mono this ?_
          rintro e w' ⟨hb, rfl⟩
          rw [← HRR.out, HOK.out]
          exact ⟨rfl, hb⟩)
        have T1 : Hid (∀ W, Calls Tryz.prog 23 #[.int .i64 0, .string { data := #[97, 98] }, .string { data := #[98] }, .agg #[.int .i64 0, .bool false, .slice none 0 0, .int .u64 0, .string { data := #[] }, .slice none 0 0], .agg #[.int .i64 0, .bool false, .slice none 0 0, .int .u64 0, .string { data := #[] }, .slice none 0 0]] W fun e w' => e = .returned (.tuple #[.int .i64 1, .bool true, .bool true]) ∧ Below W.heap.size W w') := Lib.hid (fun W => by
          refine (textFind0_any { data := #[97, 98] } { data := #[98] } .non .non false false none none 0 0 0 0 { data := #[] } { data := #[] } W (by decide) (by decide) rfl rfl trivial trivial trivial trivial).mono ?_
          rintro e w' ⟨hb, rfl⟩
          exact ⟨by rw [ab_found]; rfl, hb⟩)
        have NO : Hid (∀ W, Below wc.heap.size wc W → Calls Tryz.prog 9 #[.agg #[.int .i64 kz, .bool nz, .slice az lz cz, .int .u64 0, .string tz, .slice none 0 0]] W fun e w' => e = .returned (.int .i64 (R.getD 0)) ∧ Below W.heap.size W w') := Lib.hid (fun W h => by
          have hp : Pl z := by
            rw [HZZ.out]
            cases hR : R with
            | none => trivial
            | some i =>
              rw [hR] at HRR
              obtain ⟨hi1, hi2⟩ := findR_bd HSZ.out.1 HRR.out.symm
              show -2147483648 ≤ i ∧ i ≤ 2147483647
              omega
          have := numberAns_any z nz az lz cz tz W (HVZ.out.below h) hp
          rw [HKZ.out]
          refine this.mono ?_
          rintro e w' ⟨rfl, hb⟩
          refine ⟨?_, hb⟩
          rw [HZZ.out]
          cases R <;> rfl)
        have KG : Hid (∀ W, Below wc.heap.size wc W → W.cell? ⟨g, 0, none⟩ = some (.int .i64 kz) ∧ W.cell? ⟨g, 1, none⟩ = some (.bool nz) ∧ W.cell? ⟨g, 2, none⟩ = some (.slice az lz cz) ∧ W.cell? ⟨g, 3, none⟩ = some (.int .u64 0) ∧ W.cell? ⟨g, 4, none⟩ = some (.string tz) ∧ W.cell? ⟨g, 5, none⟩ = some (.slice none 0 0)) := Lib.hid (fun W h => (six_ready (w := w) (HKZ1.out.below h HKZ1.out.lt)).1)
        have TF1 := Lib.hid (TF.out _ HBZ.out)
        have FW : Hid (∀ W, Below wc.heap.size wc W → Below w.heap.size w W) := Lib.hid (fun W h => FINB.out _ (HBZ.out.trans (h.mono HBZ.out.size)))
        clear TV AQ1 AQ2 AQ3 KS BZ BZP BZD TF VX KX KZ FINB HRR HZZ HKZ HKX HKY HPX HSZ HKZ1 HVZ HBZ HZ
        go_wp2_with fail
        refine TF1.out.mono ?_
        rintro e w6 ⟨rfl, hb6⟩
        have H6 := Lib.hid hb6
        clear hb6 TF1 p0 p1 p2 p3 p4 p5 q0 q1 q2 q3 q4 q5
        go_wp2_with fail
        refine (T1.out _).mono ?_
        rintro e w7 ⟨rfl, hb7⟩
        have H7 := Lib.hid (H6.out.trans (hb7.mono H6.out.size))
        obtain ⟨p0, p1, p2, p3, p4, p5⟩ := KG.out _ H7.out
        have NO1 := Lib.hid (NO.out _ H7.out)
        clear hb7 T1 NO KG
        cases R with
        | none =>
          obtain rfl : ok = false := HOK.out
          clear NO1
          go_wp2_with fail
          go_ret
          exact ⟨rfl, FW.out _ H7.out⟩
        | some i =>
          obtain rfl : ok = true := HOK.out
          go_wp2_with fail
          refine NO1.out.mono ?_
          rintro e w8 ⟨rfl, hb8⟩
          have H8 := Lib.hid (H7.out.trans (hb8.mono H7.out.size))
          clear hb8 NO1
          go_wp2_with fail
          go_ret
          exact ⟨rfl, FW.out _ H8.out⟩
end Go.Proofs.YtoggalnjjhcmkaaGreat
