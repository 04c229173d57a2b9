/- FnIntOf64: impl.IntOf64 and the law. -/
import Derived.Test.YtglpnkjhehbenaaNumber
import Derived.Test.YtglpnkjhehbenaaSpecOf
import Derived.Test.YtglpnkjhehbenaaSpecIs
namespace Go.Proofs.Ytglpnkjhehbenaa
open Go.RowKit Dig
set_option linter.unusedVariables false
set_option linter.unusedSimpArgs false
set_option maxRecDepth 100000

theorem small_lim (n : Int) (h1 : -9223372036854775808 ≤ n) (h2 : n ≤ 9223372036854775807) : n.natAbs < lim := by
  refine lt_lim (j := 9) ?_ (by omega)
  have : (256 : Nat) ^ 9 = 4722366482869645213696 := by decide
  omega

/-- what a Val of the kind Int becomes when it is laid into a result's variable -/
theorem VaPost.form {i : Int} {w w' : World} {e : Ending} (h : VaPost i w e w') : ∃ (neg : Bool) (a : Option Addr) (k c : Nat), e = .returned (.agg #[.int .i64 2, .bool neg, .slice a k c, .int .u64 0, .string ByteArray.empty, .slice none 0 0]) ∧
    neg = decide (i < 0) ∧ By w' w'.heap.size (.slice a k c) i.natAbs ∧ Below w.heap.size w w' := by
  obtain ⟨v, rfl, ⟨mag, rfl, ms, hm, hs⟩, hb⟩ := h
  obtain ⟨a, c, rfl, _⟩ := id hs
  exact ⟨_, a, _, c, rfl, rfl, ⟨ms, hm, hs⟩, hb⟩

set_option maxHeartbeats 800000 in
theorem implOf64_any (n : Int) (w : World) (h1 : -9223372036854775808 ≤ n) (h2 : n ≤ 9223372036854775807) : Calls Try.prog 14 #[.int .i64 n] w (VaPost n w) := by
  have HL := Lib.hid (small_lim n h1 h2)
  go_enter Try.func14, Try.ntmps14
  go_wp2_with fail
  refine (makeInt64_any n _ h1 h2).mono ?_
  rintro e w1 ⟨v, rfl, hv, hb1⟩
  have hk1 : Blk w1 w.heap.size 35 zeroVal := (Blk.new w 35 zeroVal).below hb1 (by simp)
  have HB1 := Lib.hid (((Below.refl _ w).alloc (Nat.le_refl _) (.cells zeroVal.toArray 35)).trans (hb1.mono (by simp)))
  have HK1 := Lib.hid hk1
  have HV := Lib.hid hv
  clear hb1 hk1 hv
  go_wp2_with fail
  refine (number_any v n w1 HV.out HL.out).mono ?_
  intro e w2 hp
  obtain ⟨neg, a, k, c, rfl, hneg, hy, hb2⟩ := hp.form
  have hk2 := HK1.out.below hb2 HK1.out.lt
  have c0 : w2.cell? ⟨w.heap.size, 0, none⟩ = some (.int .i64 0) := hk2.cell 0 (by simp [zeroVal])
  have c1 : w2.cell? ⟨w.heap.size, 1, none⟩ = some (.bool false) := hk2.cell 1 (by simp [zeroVal])
  have c2 : w2.cell? ⟨w.heap.size, 2, none⟩ = some (.slice none 0 0) := hk2.cell 2 (by simp [zeroVal])
  have c3 : w2.cell? ⟨w.heap.size, 3, none⟩ = some (.int .u64 0) := hk2.cell 3 (by simp [zeroVal])
  have c4 : w2.cell? ⟨w.heap.size, 4, none⟩ = some (.string ByteArray.empty) := hk2.cell 4 (by simp [zeroVal])
  have c5 : w2.cell? ⟨w.heap.size, 5, none⟩ = some (.slice none 0 0) := hk2.cell 5 (by simp [zeroVal])
  have f0 := hk2.free 0
  have f1 := hk2.free 1
  have f2 := hk2.free 2
  have f3 := hk2.free 3
  have f4 := hk2.free 4
  have f5 := hk2.free 5
  have FIN := Lib.hid (Va.store (w := w) hy hneg hk2 (HB1.out.trans (hb2.mono HB1.out.size)) (Nat.le_refl _))
  clear hk2 hy hb2 hp hneg
  go_wp2_with fail
  refine bodyPost_ret (v := .agg #[.int .i64 2, .bool neg, .slice a k c, .int .u64 0, .string ByteArray.empty, .slice none 0 0]) (by simp [results, Try.results14, go_sem, c0, c1, c2, c3, c4, c5]) rfl ?_
  exact FIN.out

theorem law5 (n : Int) (w : World) (h1 : -9223372036854775808 ≤ n) (h2 : n ≤ 9223372036854775807) : Calls Try.prog 5 #[.int .i64 n] w fun e w' => e = .returned (.bool true) ∧ Below w.heap.size w w' := by
  have HL := Lib.hid (small_lim n h1 h2)
  go_enter Try.func5, Try.ntmps5
  go_wp2_with fail
  refine (implOf64_any n _ h1 h2).mono ?_
  rintro e w1 ⟨v, rfl, hv, hb1⟩
  have HV := Lib.hid hv
  have HB1 := Lib.hid hb1
  clear hv hb1
  go_wp2_with fail
  refine (small_any n _ h1 h2).mono ?_
  rintro e w2 ⟨x, rfl, hx, hb2⟩
  have HX := Lib.hid hx
  have HB2 := Lib.hid hb2
  clear hx hb2
  go_wp2_with fail
  refine (is_any n v x _ ((HV.out.below HB2.out).more HB2.out.size) HX.out HL.out).mono ?_
  rintro e w3 ⟨rfl, hb3⟩
  have HB3 := Lib.hid hb3
  clear hb3
  go_wp2_with fail
  go_ret
  exact ⟨rfl, HB1.out.trans ((HB2.out.mono HB1.out.size).trans (HB3.out.mono (Nat.le_trans HB1.out.size HB2.out.size)))⟩
end Go.Proofs.Ytglpnkjhehbenaa
