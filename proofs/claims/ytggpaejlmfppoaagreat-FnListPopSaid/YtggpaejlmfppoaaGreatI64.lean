/- (spec.Int).Int64: the number of an integer that has room in 64 bits with a sign. -/
import Derived.Test.YtggpaejlmfppoaaGreatCmp3
import Derived.Test.YtggpaejlmfppoaaGreatLow
import Derived.Deep.RegionHeld3
namespace Go.Proofs.YtggpaejlmfppoaaGreat
open Go.RowKit Dig
set_option linter.unusedVariables false
set_option linter.unusedSimpArgs false
set_option maxRecDepth 100000

/-- whether an integer has room in 64 bits with a sign -/
def fits64 (i : Int) : Bool := decide (-9223372036854775808 ≤ i ∧ i ≤ 9223372036854775807)
def I64Post (i : Int) (w : World) (e : Ending) (w' : World) : Prop :=
  e = .returned (.tuple #[.int .i64 (if fits64 i then i else 0), .bool (fits64 i)]) ∧ Below w.heap.size w w'
theorem cmpI_lo (i : Int) (h : i < -9223372036854775808) : cmpI i (-9223372036854775808) = -1 := by unfold cmpI; rw [if_pos h]
theorem cmpI_hi (i : Int) (h : 9223372036854775807 < i) : cmpI i 9223372036854775807 = 1 := by unfold cmpI; rw [if_neg (by omega), if_pos h]
theorem cmpI_ge (i j : Int) (h : j ≤ i) : ¬ cmpI i j < 0 := by unfold cmpI; split <;> (try split) <;> omega
theorem cmpI_le (i j : Int) (h : i ≤ j) : ¬ 0 < cmpI i j := by unfold cmpI; split <;> (try split) <;> omega
theorem small_lim (n : Int) (h1 : -9223372036854775808 ≤ n) (h2 : n ≤ 9223372036854775807) : n.natAbs < lim := lt_lim (j := 8) (by
  have e : (256 : Nat) ^ 8 = 18446744073709551616 := by decide
  omega) (by omega)

set_option maxHeartbeats 1600000 in
theorem specInt64_any (i : Int) (x : Value) (w : World) (hx : Sp w w.heap.size x i) (hi : i.natAbs < lim) :
    Calls Tryz.prog 49 #[x] w (I64Post i w) := by
  obtain ⟨m1, rfl, b1⟩ := id hx
  obtain ⟨xs, r1, s1⟩ := id b1
  obtain ⟨a, c, rfl, hc1, _⟩ := id s1
  simp only [List.length_map] at *
  generalize xs.length = k at *
  obtain ⟨n, hn⟩ : ∃ n, n = decide (i < 0) := ⟨_, rfl⟩
  rw [← hn] at hx ⊢
  obtain ⟨W0, hW0⟩ : ∃ W0, W0 = w.alloc (.cells #[.bool n, .slice a k c] 64) := ⟨_, rfl⟩
  have hb0 : Below w.heap.size w W0 := by rw [hW0]; exact (Below.refl _ _).alloc (Nat.le_refl _) _
  have hsz : W0.heap.size = w.heap.size + 1 := by rw [hW0]; simp
  have hX : Blk W0 w.heap.size 64 [.bool n, .slice a k c] := by rw [hW0]; exact Blk.new w _ [.bool n, .slice a k c]
  have KEEP : Hid (∀ W, Below W0.heap.size W0 W → W.cell? ⟨w.heap.size, 0, none⟩ = some (.bool n) ∧ W.cell? ⟨w.heap.size, 1, none⟩ = some (.slice a k c)) := Lib.hid (fun W h => by
    have q := hX.below h (by omega)
    exact ⟨q.cell 0 (by simp), q.cell 1 (by simp)⟩)
  have FIN : Hid (∀ W, Below W0.heap.size W0 W → Below w.heap.size w W) := Lib.hid (fun W h => hb0.trans (h.mono (by omega)))
  have SM : Hid (∀ (j : Int) (W : World), Below W0.heap.size W0 W → -9223372036854775808 ≤ j → j ≤ 9223372036854775807 → Calls Tryz.prog 26 #[.int .i64 j] W fun e w' => ∃ q p k' c', e = .returned (.agg #[.bool q, .slice p k' c']) ∧ Sp w' w'.heap.size (.agg #[.bool q, .slice p k' c']) j ∧ Below W0.heap.size W0 w') := Lib.hid (fun j W h h1 h2 => by
    refine (small_any j W h1 h2).mono ?_
    rintro e w' ⟨v, rfl, hs, hb⟩
    obtain ⟨q, p, k', c', rfl⟩ := hs.form
    exact ⟨q, p, k', c', rfl, hs, h.trans (hb.mono h.size)⟩)
  have CM : Hid (∀ (j : Int) (v : Value) (W : World), Below W0.heap.size W0 W → Sp W W.heap.size v j → j.natAbs < lim → Calls Tryz.prog 29 #[.agg #[.bool n, .slice a k c], v] W fun e w' => e = .returned (.int .i64 (cmpI i j)) ∧ Below W0.heap.size W0 w') := Lib.hid (fun j v W h hv hj => by
    have g := hb0.trans (h.mono (by omega))
    refine (specCmp_any i j _ v W ((hx.below g).more g.size) hv hi hj).mono ?_
    rintro e w' ⟨rfl, hb⟩
    exact ⟨rfl, h.trans (hb.mono h.size)⟩)
  have LOW : Hid (∀ W, Below W0.heap.size W0 W → Calls Tryz.prog 73 #[.agg #[.bool n, .slice a k c]] W fun e w' => e = .returned (.int .u64 ((i.natAbs % 18446744073709551616 : Nat) : Int)) ∧ Below W0.heap.size W0 w') := Lib.hid (fun W h => by
    have g := hb0.trans (h.mono (by omega))
    refine (low_any i.natAbs n _ W ((b1.below g).more g.size) hi).mono ?_
    rintro e w' ⟨rfl, hb⟩
    exact ⟨rfl, h.trans (hb.mono h.size)⟩)
  have HD : Hid (Below W0.heap.size W0 W0.drew) := (Below.refl _ _).drew
  have HB : Hid (Below W0.heap.size W0 W0) := Below.refl _ _
  obtain ⟨p0, p1⟩ := KEEP.out _ HB.out
  clear hx b1 r1 s1 hX hb0 hsz
  unfold I64Post
  rcases Int.lt_or_le i (-9223372036854775808) with hlo | hlo
  · have E1 := Lib.hid (cmpI_lo i hlo)
    have EF : fits64 i = false := by unfold fits64; simp; omega
    rw [EF]
    have CM1 := Lib.hid (CM.out (-9223372036854775808)); rw [E1.out] at CM1
    clear hi hn hlo EF CM LOW E1
    subst hW0
    go_enter Tryz.func49, Tryz.ntmps49
    go_wp2_with fail
    go_region_with (first
        | (go_at_call 26; (with_reducible refine (SM.out _ _ (by first | exact HB.out | (with_unfolding_all exact HD.out)) (by decide) (by decide)).mono ?_); rintro e w4 ⟨q, p, k', c', rfl, hs, hb⟩; have HS := Lib.hid hs; have HB := Lib.hid hb; obtain ⟨p0, p1⟩ := KEEP.out _ hb; clear hs hb)
        | (go_at_call 29; (with_reducible refine (CM1.out _ _ HB.out HS.out (small_lim _ (by decide) (by decide))).mono ?_); rintro e w5 ⟨rfl, hb⟩; have HB := Lib.hid hb; obtain ⟨p0, p1⟩ := KEEP.out _ hb; clear hb))
    all_goals
      go_wp2_with fail
      go_ret2
      exact ⟨rfl, FIN.out _ HB.out⟩
  · have E1 := cmpI_ge i (-9223372036854775808) hlo
    have CM1 := Lib.hid (CM.out (-9223372036854775808))
    have CM2 := Lib.hid (CM.out 9223372036854775807)
    rcases Int.lt_or_le 9223372036854775807 i with hhi | hhi
    · rw [cmpI_hi i hhi] at CM2
      have EF : fits64 i = false := by unfold fits64; simp; omega
      rw [EF]
      generalize cmpI i (-9223372036854775808) = r1 at *
      have D1 : decide (r1 < 0) = false := by simpa using E1
      clear hi hn hlo hhi EF CM LOW
      subst hW0
      go_enter Tryz.func49, Tryz.ntmps49
      go_wp2_with fail
      go_region_with (first
          | (go_at_call 26; (with_reducible refine (SM.out _ _ (by first | exact HB.out | (with_unfolding_all exact HD.out)) (by decide) (by decide)).mono ?_); rintro e w4 ⟨q, p, k', c', rfl, hs, hb⟩; have HS := Lib.hid hs; have HB := Lib.hid hb; obtain ⟨p0, p1⟩ := KEEP.out _ hb; clear hs hb)
          | (go_at_call 29; (with_reducible refine (CM1.out _ _ HB.out HS.out (small_lim _ (by decide) (by decide))).mono ?_); rintro e w5 ⟨rfl, hb⟩; have HB := Lib.hid hb; obtain ⟨p0, p1⟩ := KEEP.out _ hb; clear hb)
          | (go_at_call 29; (with_reducible refine (CM2.out _ _ HB.out HS.out (small_lim _ (by decide) (by decide))).mono ?_); rintro e w5 ⟨rfl, hb⟩; have HB := Lib.hid hb; obtain ⟨p0, p1⟩ := KEEP.out _ hb; clear hb))
      all_goals
        go_wp2_with fail
        go_ret2
        exact ⟨rfl, FIN.out _ HB.out⟩
    · have E2 := cmpI_le i 9223372036854775807 hhi
      have EF : fits64 i = true := by unfold fits64; simp; omega
      rw [EF]
      generalize cmpI i (-9223372036854775808) = r1 at *
      generalize cmpI i 9223372036854775807 = r2 at *
      have D1 : decide (r1 < 0) = false := by simpa using E1
      have D2 : decide (0 < r2) = false := by simpa using E2
      clear hi EF CM
      rcases Int.lt_or_le i 0 with h0 | h0
      · have EN : Hid (wrap64 (IntKind.u64.wrap (-((i.natAbs % 18446744073709551616 : Nat) : Int))) = i) := Lib.hid (by unfold wrap64; rw [IntKind.wrap_u64]; omega)
        obtain rfl : n = true := by rw [hn]; simp [h0]
        have hu : (i.natAbs % 18446744073709551616 : Nat) < 18446744073709551616 := by omega
        generalize (i.natAbs % 18446744073709551616 : Nat) = u at *
        clear hn hlo hhi h0
        subst hW0
        go_enter Tryz.func49, Tryz.ntmps49
        go_wp2_with fail
        go_region_with (first
            | (go_at_call 26; (with_reducible refine (SM.out _ _ (by first | exact HB.out | (with_unfolding_all exact HD.out)) (by decide) (by decide)).mono ?_); rintro e w4 ⟨q, p, k', c', rfl, hs, hb⟩; have HS := Lib.hid hs; have HB := Lib.hid hb; obtain ⟨p0, p1⟩ := KEEP.out _ hb; clear hs hb)
            | (go_at_call 29; (with_reducible refine (CM1.out _ _ HB.out HS.out (small_lim _ (by decide) (by decide))).mono ?_); rintro e w5 ⟨rfl, hb⟩; have HB := Lib.hid hb; obtain ⟨p0, p1⟩ := KEEP.out _ hb; clear hb)
            | (go_at_call 29; (with_reducible refine (CM2.out _ _ HB.out HS.out (small_lim _ (by decide) (by decide))).mono ?_); rintro e w5 ⟨rfl, hb⟩; have HB := Lib.hid hb; obtain ⟨p0, p1⟩ := KEEP.out _ hb; clear hb))
        all_goals
          go_wp2_with (go_at_call 73; refine (LOW.out _ HB.out).mono ?_; rintro e w6 ⟨rfl, hb⟩; have HB := Lib.hid hb; obtain ⟨p0, p1⟩ := KEEP.out _ hb; clear hb)
          go_ret2
          exact ⟨congrArg (fun z => Ending.returned (.tuple #[.int .i64 z, .bool true])) EN.out, FIN.out _ HB.out⟩
      · have EN : Hid (wrap64 ((i.natAbs % 18446744073709551616 : Nat) : Int) = i) := Lib.hid (by unfold wrap64; omega)
        obtain rfl : n = false := by rw [hn]; simp; omega
        have hu : (i.natAbs % 18446744073709551616 : Nat) < 18446744073709551616 := by omega
        generalize (i.natAbs % 18446744073709551616 : Nat) = u at *
        clear hn hlo hhi h0
        subst hW0
        go_enter Tryz.func49, Tryz.ntmps49
        go_wp2_with fail
        go_region_with (first
            | (go_at_call 26; (with_reducible refine (SM.out _ _ (by first | exact HB.out | (with_unfolding_all exact HD.out)) (by decide) (by decide)).mono ?_); rintro e w4 ⟨q, p, k', c', rfl, hs, hb⟩; have HS := Lib.hid hs; have HB := Lib.hid hb; obtain ⟨p0, p1⟩ := KEEP.out _ hb; clear hs hb)
            | (go_at_call 29; (with_reducible refine (CM1.out _ _ HB.out HS.out (small_lim _ (by decide) (by decide))).mono ?_); rintro e w5 ⟨rfl, hb⟩; have HB := Lib.hid hb; obtain ⟨p0, p1⟩ := KEEP.out _ hb; clear hb)
            | (go_at_call 29; (with_reducible refine (CM2.out _ _ HB.out HS.out (small_lim _ (by decide) (by decide))).mono ?_); rintro e w5 ⟨rfl, hb⟩; have HB := Lib.hid hb; obtain ⟨p0, p1⟩ := KEEP.out _ hb; clear hb))
        all_goals
          go_wp2_with (go_at_call 73; refine (LOW.out _ HB.out).mono ?_; rintro e w6 ⟨rfl, hb⟩; have HB := Lib.hid hb; obtain ⟨p0, p1⟩ := KEEP.out _ hb; clear hb)
          go_ret2
          exact ⟨congrArg (fun z => Ending.returned (.tuple #[.int .i64 z, .bool true])) EN.out, FIN.out _ HB.out⟩
end Go.Proofs.YtggpaejlmfppoaaGreat
