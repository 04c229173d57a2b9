/- signum64, (starlark.Int).bigInt; (*Int).Cmp. -/
import Derived.Test.YtggpaejlmfppoaaGreatCmp2
namespace Go.Proofs.YtggpaejlmfppoaaGreat
open Go.RowKit Dig
set_option linter.unusedVariables false
set_option linter.unusedSimpArgs false
set_option maxRecDepth 100000

theorem signum_any (x : Int) (w : World) (h1 : -9000000000000000000 ≤ x) (h2 : x ≤ 9000000000000000000) : Calls Tryz.prog 164 #[.int .i64 x] w fun e w' => e = .returned (.int .i64 (cmpI x 0)) ∧ w' = w := by
  rcases Int.lt_trichotomy x 0 with h | h | h
  · have e1 : x / 9223372036854775808 = -1 := by omega
    have e2 : cmpI x 0 = -1 := by simp [cmpI, h]
    have E3 := Lib.hid (show -x / 9223372036854775808 = 0 by omega)
    rw [e2]
    go_enter Tryz.func164, Tryz.ntmps164
    go_wp2
    go_ret
    refine ⟨congrArg (fun z => Ending.returned (.int .i64 z)) (?_ : wrap64 (bits BinOp.or IntKind.u64 (IntKind.u64.wrap (-1)) (-x / 9223372036854775808)) = -1), rfl⟩
    rw [E3.out]
    kernel_rfl
  · subst h
    rw [show cmpI 0 0 = 0 from rfl]
    go_enter Tryz.func164, Tryz.ntmps164
    go_wp2
    go_ret
    refine ⟨?_, rfl⟩
    kernel_rfl
  · have e1 : x / 9223372036854775808 = 0 := by omega
    have e2 : cmpI x 0 = 1 := by simp [cmpI, h]; omega
    have E3 := Lib.hid (show IntKind.u64.wrap (-x) / 9223372036854775808 = 1 by rw [IntKind.wrap_u64]; omega)
    rw [e2]
    go_enter Tryz.func164, Tryz.ntmps164
    go_wp2
    go_ret
    refine ⟨congrArg (fun z => Ending.returned (.int .i64 z)) (?_ : wrap64 (bits BinOp.or IntKind.u64 0 (IntKind.u64.wrap (-x) / 9223372036854775808)) = 1), rfl⟩
    rw [E3.out]
    kernel_rfl

theorem cmpI_negs {i j : Int} (hi : i < 0) (hj : j < 0) : cmpI i j = -(cmpN i.natAbs j.natAbs) := by
  unfold cmpI cmpN
  have e1 : i < j ↔ j.natAbs < i.natAbs := by omega
  have e2 : j < i ↔ i.natAbs < j.natAbs := by omega
  simp only [e1, e2]
  split <;> split <;> (try split) <;> omega
theorem cmpI_poss {i j : Int} (hi : ¬ i < 0) (hj : ¬ j < 0) : cmpI i j = cmpN i.natAbs j.natAbs := by
  unfold cmpI cmpN
  have e1 : i < j ↔ i.natAbs < j.natAbs := by omega
  have e2 : j < i ↔ j.natAbs < i.natAbs := by omega
  simp only [e1, e2]
theorem Bg.inj {w : World} {B B' : Nat} {p : Option Addr} {i j : Int} (h : Bg w B p i) (k : Bg w B' p j) : i = j := by
  obtain ⟨b, abs, rfl, _, h3, xs, h4, h5⟩ := h
  obtain ⟨b', abs', hb, _, k3, ys, k4, k5⟩ := k
  obtain rfl : b = b' := by injection hb with h; injection h
  have e := (h3.inj k3).2
  simp only [List.cons.injEq, Value.bool.injEq, and_true] at e
  obtain ⟨e1, rfl⟩ := e
  have e2 : xs = ys := by
    obtain ⟨a, c, rfl, _, r1⟩ := h5
    obtain ⟨a', c', hv, _, r2⟩ := k5
    simp only [Value.slice.injEq, List.length_map] at hv
    obtain ⟨rfl, hlen, rfl⟩ := hv
    by_cases h0 : xs = []
    · subst h0
      exact (List.eq_nil_of_length_eq_zero (by simpa using hlen.symm)).symm
    · obtain ⟨b1, o1, rfl, _, d1⟩ := r1 (by simpa using h0)
      obtain ⟨b2, o2, hb2, _, d2⟩ := r2 (by intro h; simp at h; subst h; simp at hlen; exact h0 hlen)
      injection hb2 with hb2
      injection hb2 with e3 e4
      subst e3
      subst e4
      apply List.ext_getElem hlen
      intro k hk1 hk2
      have q1 := d1 k (by simpa using hk1)
      have q2 := d2 k (by simpa using hk2)
      rw [q1] at q2
      have := Option.some.inj q2
      rw [getD_map_wv xs k hk1, getD_map_wv ys k hk2] at this
      simp only [Value.int.injEq, true_and] at this
      rw [List.getD_eq_getElem?_getD, List.getD_eq_getElem?_getD, List.getElem?_eq_getElem hk1, List.getElem?_eq_getElem hk2] at this
      simp only [Option.getD_some] at this
      exact_mod_cast this
  subst e2
  have e3 := h4.val
  rw [k4.val] at e3
  have e4 : (i < 0) ↔ (j < 0) := by simpa using e1
  omega

set_option maxHeartbeats 1600000 in
theorem bigCmp_any (p q : Option Addr) (i j : Int) (w : World) (hp : Bg w w.heap.size p i) (hq : Bg w w.heap.size q j) (hi : i.natAbs < lim) (hj : j.natAbs < lim) :
    Calls Tryz.prog 116 #[.pointer p, .pointer q] w (CmpPost (cmpI i j) w) := by
  obtain ⟨ib, hib, hibs⟩ := infoBg'
  by_cases hpq : p = q
  · subst hpq
    obtain rfl := hp.inj hq
    obtain ⟨b, abs, rfl, hb, hk, hn⟩ := hp
    have hpe := fun W => run_eql_ptr_same (P := Tryz.prog) (w := W) (a := ⟨b, 0, none⟩) Tryz.underlying83 hib hibs
    rw [show cmpI i i = 0 by simp [cmpI]]
    clear hk hn hq
    go_enter Tryz.func116, Tryz.ntmps116
    go_wp2_with fail
    go_ret
    exact ⟨rfl, Qt.refl _⟩
  · obtain ⟨b, abs, rfl, hb, hk, hn⟩ := hp
    obtain ⟨b', abs', rfl, hb', hk', hn'⟩ := hq
    have hne : b ≠ b' := fun h => hpq (by rw [h])
    have hpe := run_eql_ptr_other (P := Tryz.prog) (w := w) Tryz.underlying83 hib hibs hne hk hk'
    have x0 : w.cell? ⟨b, 0, none⟩ = some (.bool (decide (i < 0))) := hk.cell 0 (by simp)
    have x1 : w.cell? ⟨b, 1, none⟩ = some abs := hk.cell 1 (by simp)
    have y0 : w.cell? ⟨b', 0, none⟩ = some (.bool (decide (j < 0))) := hk'.cell 0 (by simp)
    have y1 : w.cell? ⟨b', 1, none⟩ = some abs' := hk'.cell 1 (by simp)
    have C : Hid (∀ k n, Calls Tryz.prog 121 #[abs, abs'] (w.drewN (k + n)) fun e w'' => e = .returned (.int .i64 (cmpN i.natAbs j.natAbs)) ∧ ∃ m, w'' = w.drewN (k + m)) := Lib.hid (fun k n =>
      (natCmp_any i.natAbs j.natAbs abs abs' (w.drewN (k + n)) hn hn' hi hj).mono (by
        rintro e w' ⟨rfl, m, rfl⟩
        exact ⟨rfl, n + m, by rw [World.drewN_drewN, Nat.add_assoc]⟩))
    have G1 := Lib.hid (@cmpI_negs i j)
    have G2 := Lib.hid (@cmpI_poss i j)
    have hcr : -1 ≤ cmpN i.natAbs j.natAbs ∧ cmpN i.natAbs j.natAbs ≤ 1 := by unfold cmpN; split <;> (try split) <;> omega
    generalize cmpN i.natAbs j.natAbs = r at *
    obtain ⟨hr1, hr2⟩ := hcr
    clear hk hk' hn hn' hpq
    by_cases h1 : i < 0
    · by_cases h2 : j < 0
      · rw [G1.out h1 h2]
        rw [decide_eq_true h1] at x0
        rw [decide_eq_true h2] at y0
        clear G1 G2 h1 h2
        go_enter Tryz.func116, Tryz.ntmps116
        go_wp2_with fail
        go_quiet (fail)
        go_wp2_with fail
        go_quiet ((go_at_call 121; exact C.out _ _))
        go_wp2_with fail
        go_ret
        exact ⟨rfl, (Qt.refl _).drewN _⟩
      · have e : cmpI i j = -1 := by unfold cmpI; rw [if_pos (by omega)]
        rw [e]
        rw [decide_eq_true h1] at x0
        rw [decide_eq_false h2] at y0
        clear G1 G2 h1 h2 e
        go_enter Tryz.func116, Tryz.ntmps116
        go_wp2_with fail
        go_quiet (fail)
        go_wp2_with fail
        go_ret
        exact ⟨rfl, (Qt.refl _).drewN _⟩
    · by_cases h2 : j < 0
      · have e : cmpI i j = 1 := by unfold cmpI; rw [if_neg (by omega), if_pos (by omega)]
        rw [e]
        rw [decide_eq_false h1] at x0
        rw [decide_eq_true h2] at y0
        clear G1 G2 h1 h2 e
        go_enter Tryz.func116, Tryz.ntmps116
        go_wp2_with fail
        go_quiet (fail)
        go_wp2_with fail
        go_ret
        exact ⟨rfl, (Qt.refl _).drewN _⟩
      · rw [G2.out h1 h2]
        rw [decide_eq_false h1] at x0
        rw [decide_eq_false h2] at y0
        clear G1 G2 h1 h2
        go_enter Tryz.func116, Tryz.ntmps116
        go_wp2_with fail
        go_quiet (fail)
        go_wp2_with fail
        go_quiet ((go_at_call 121; exact C.out _ _))
        go_wp2_with fail
        go_ret
        exact ⟨rfl, (Qt.refl _).drewN _⟩
end Go.Proofs.YtggpaejlmfppoaaGreat
