/- (*Int).Or into a fresh integer: both of one sign. (*Int).Or into a fresh integer: of two signs; together. (*Int).Or into a fresh integer. -/
import Derived.Test.YthnmkbdeoahiaaaMBigBit0
namespace Go.Proofs.Ythnmkbdeoahiaaa
open Go.RowKit Dig
set_option linter.unusedVariables false
set_option linter.unusedSimpArgs false
set_option maxRecDepth 100000
attribute [local go_sem ↓] Go.wp_at_zero Go.wp_at_succ

set_option maxHeartbeats 3200000 in
theorem bigOr_pp (z : Nat) (p q : Option Addr) (i j : Int) (w : World) (hz : Blk w z 89 [.bool false, .slice none 0 0]) (hx : Bg w w.heap.size p i) (hy : Bg w w.heap.size q j) (hne : p ≠ some ⟨z, 0, none⟩) (hne2 : q ≠ some ⟨z, 0, none⟩) (hl1 : i.natAbs < lim) (hl2 : j.natAbs < lim) (hi : 0 ≤ i) (hj : 0 ≤ j) :
    Calls Try.prog 59 #[.pointer (some ⟨z, 0, none⟩), .pointer p, .pointer q] w (PutPost z (orI i j) w) := by
  obtain ⟨b1, abs1, rfl, hb1, hk1, hn1⟩ := hx
  obtain ⟨b2, abs2, rfl, hb2, hk2, hn2⟩ := hy
  have hzb1 : ¬ b1 = z := fun h => hne (by rw [h])
  have hzb2 : ¬ b2 = z := fun h => hne2 (by rw [h])
  rw [show decide (i < 0) = false by simp; omega] at hk1
  rw [show decide (j < 0) = false by simp; omega] at hk2
  have hzl := hz.lt
  have KEEP : Hid (∀ w1, Below w.heap.size w w1 → w1.cell? ⟨z, 0, none⟩ = some (.bool false) ∧ w1.cell? ⟨z, 1, none⟩ = some (.slice none 0 0) ∧ w1.frozen? ⟨z, 0, none⟩ = false ∧ w1.frozen? ⟨z, 1, none⟩ = false ∧ w1.cell? ⟨b1, 0, none⟩ = some (.bool false) ∧ w1.cell? ⟨b1, 1, none⟩ = some abs1 ∧ w1.cell? ⟨b2, 0, none⟩ = some (.bool false) ∧ w1.cell? ⟨b2, 1, none⟩ = some abs2) := Lib.hid (by
    intro w1 hb
    have h := hz.below hb hzl
    have g1 := hk1.below hb hb1
    have g2 := hk2.below hb hb2
    exact ⟨h.cell 0 (by simp), h.cell 1 (by simp), h.free 0, h.free 1, g1.cell 0 (by simp), g1.cell 1 (by simp), g2.cell 0 (by simp), g2.cell 1 (by simp)⟩)
  have FIN : Hid (∀ (v : Value) (w1 : World), Nt w1 w1.heap.size v (forr i.natAbs j.natAbs) → Below w.heap.size w w1 → PutPost z (orI i j) w (.returned (.pointer (some ⟨z, 0, none⟩))) ((w1.setCell ⟨z, 1, none⟩ v).setCell ⟨z, 0, none⟩ (.bool false))) := Lib.hid (by
    intro v w1 h hb
    have e : (orI i j).natAbs = forr i.natAbs j.natAbs := by unfold orI; rw [if_neg (by omega), if_neg (by omega)]; omega
    exact put_nt hz rfl (by simp [wv]) (by rw [e]; exact h) hb _ (by exact (decide_eq_false (show ¬ orI i j < 0 by unfold orI; rw [if_neg (by omega), if_neg (by omega)]; omega)).symm))
  have NX0 := Lib.hid hn1
  have NY0 := Lib.hid hn2
  have LX := Lib.hid hl1
  have LY := Lib.hid hl2
  have LONE := Lib.hid one_lim
  obtain ⟨z0, z1, f0, f1, x0, x1, y0, y1⟩ := KEEP.out _ (Below.refl _ w)
  clear hz hk1 hk2 hn1 hn2 hne hne2 hl1 hl2 hi hj hb1 hb2
  go_enter Try.func59, Try.ntmps59
  go_upto_region 1 with fail
  go_cut [18] from 10 to 18 (fun sv wx => sv = .bool true ∧ Below w.heap.size w wx)
  case first =>
    go_quiet (fail)
    all_goals (go_wp2_with fail; go_meet; exact ⟨rfl, below_drewN (Below.refl _ _) _⟩)
  case rest =>
  obtain ⟨rfl, hbw⟩ := hcut
  have NX := Lib.hid (NX0.out.carry hbw)
  have NY := Lib.hid (NY0.out.carry hbw)
  have HB := Lib.hid hbw
  clear hbw NX0 NY0
  obtain ⟨z0, z1, f0, f1, x0, x1, y0, y1⟩ := KEEP.out _ HB.out
  go_upto_region 1 with fail
  go_cut [] from 10 to 70 (fun wx => AbsPut z (forr i.natAbs j.natAbs) w wx)
  case first =>
    have HB : Hid (Below w.heap.size w wc.drew) := Lib.hid HB.out.drew
    have BB : Hid (Below wc.heap.size wc wc.drew) := Lib.hid (Below.refl _ _).drew
    have NX := Lib.hid (NX.out.carry BB.out)
    have NY := Lib.hid (NY.out.carry BB.out)
    go_region_with (first | (go_at_call 83; (with_reducible refine (op_lift HB.out (natOr_any _ _ _ _ _ NX.out NY.out LX.out LY.out)).mono ?_); rintro e w4 ⟨o1, o2, o3, rfl, hp, hn, hbw, hbb⟩; (try have NX := Lib.hid (NX.out.carry hbb)); (try have NY := Lib.hid (NY.out.carry hbb)); (try have NX1 := Lib.hid (NX1.out.carry hbb)); (try have NY1 := Lib.hid (NY1.out.carry hbb)); (try have NO := Lib.hid (NO.out.carry hbb)); (try have NR := Lib.hid (NR.out.carry hbb)); have NR := Lib.hid hn; have HP := Lib.hid hp; have HB := Lib.hid hbw; obtain ⟨z0, z1, f0, f1, x0, x1, y0, y1⟩ := KEEP.out _ HB.out; clear hn hp hbw hbb))
    all_goals (go_wp2_with fail; go_meet; exact ⟨_, _, _, _, rfl, HP.out, NR.out, HB.out⟩)
  case rest =>
  obtain ⟨av, nv, cv, w1, rfl, hpos, hn, hb⟩ := hcut
  obtain ⟨z0, z1, f0, f1, x0, x1, y0, y1⟩ := KEEP.out _ hb
  have G := Lib.hid (FIN.out _ w1 hn hb)
  clear hpos hn hb
  go_wp2_with fail
  go_ret
  exact G.out

set_option maxHeartbeats 3200000 in
theorem bigOr_nn (z : Nat) (p q : Option Addr) (i j : Int) (w : World) (hz : Blk w z 89 [.bool false, .slice none 0 0]) (hx : Bg w w.heap.size p i) (hy : Bg w w.heap.size q j) (hne : p ≠ some ⟨z, 0, none⟩) (hne2 : q ≠ some ⟨z, 0, none⟩) (hl1 : i.natAbs < lim) (hl2 : j.natAbs < lim) (hi : i < 0) (hj : j < 0) :
    Calls Try.prog 59 #[.pointer (some ⟨z, 0, none⟩), .pointer p, .pointer q] w (PutPost z (orI i j) w) := by
  obtain ⟨b1, abs1, rfl, hb1, hk1, hn1⟩ := hx
  obtain ⟨b2, abs2, rfl, hb2, hk2, hn2⟩ := hy
  have hzb1 : ¬ b1 = z := fun h => hne (by rw [h])
  have hzb2 : ¬ b2 = z := fun h => hne2 (by rw [h])
  rw [show decide (i < 0) = true by simp; omega] at hk1
  rw [show decide (j < 0) = true by simp; omega] at hk2
  have hzl := hz.lt
  have KEEP : Hid (∀ w1, Below w.heap.size w w1 → w1.cell? ⟨z, 0, none⟩ = some (.bool false) ∧ w1.cell? ⟨z, 1, none⟩ = some (.slice none 0 0) ∧ w1.frozen? ⟨z, 0, none⟩ = false ∧ w1.frozen? ⟨z, 1, none⟩ = false ∧ w1.cell? ⟨b1, 0, none⟩ = some (.bool true) ∧ w1.cell? ⟨b1, 1, none⟩ = some abs1 ∧ w1.cell? ⟨b2, 0, none⟩ = some (.bool true) ∧ w1.cell? ⟨b2, 1, none⟩ = some abs2) := Lib.hid (by
    intro w1 hb
    have h := hz.below hb hzl
    have g1 := hk1.below hb hb1
    have g2 := hk2.below hb hb2
    exact ⟨h.cell 0 (by simp), h.cell 1 (by simp), h.free 0, h.free 1, g1.cell 0 (by simp), g1.cell 1 (by simp), g2.cell 0 (by simp), g2.cell 1 (by simp)⟩)
  have FIN : Hid (∀ (v : Value) (w1 : World), Nt w1 w1.heap.size v (fand (i.natAbs - 1) (j.natAbs - 1) + 1) → Below w.heap.size w w1 → PutPost z (orI i j) w (.returned (.pointer (some ⟨z, 0, none⟩))) ((w1.setCell ⟨z, 1, none⟩ v).setCell ⟨z, 0, none⟩ (.bool true))) := Lib.hid (by
    intro v w1 h hb
    have e : (orI i j).natAbs = fand (i.natAbs - 1) (j.natAbs - 1) + 1 := by unfold orI; rw [if_pos hi, if_pos hj]; omega
    exact put_nt hz rfl (by simp [wv]) (by rw [e]; exact h) hb _ (by exact (decide_eq_true (show orI i j < 0 by unfold orI; rw [if_pos hi, if_pos hj]; omega)).symm))
  have NX0 := Lib.hid hn1
  have NY0 := Lib.hid hn2
  have LX := Lib.hid hl1
  have LY := Lib.hid hl2
  have LONE := Lib.hid one_lim
  have LEX := Lib.hid (show 1 ≤ i.natAbs by omega)
  have LEY := Lib.hid (show 1 ≤ j.natAbs by omega)
  have LX1 := Lib.hid (show i.natAbs - 1 < lim by omega)
  have LY1 := Lib.hid (show j.natAbs - 1 < lim by omega)
  have LR := Lib.hid (fand_lt (i.natAbs - 1) (j.natAbs - 1) LX1.out)
  obtain ⟨z0, z1, f0, f1, x0, x1, y0, y1⟩ := KEEP.out _ (Below.refl _ w)
  clear hz hk1 hk2 hn1 hn2 hne hne2 hl1 hl2 hi hj hb1 hb2
  go_enter Try.func59, Try.ntmps59
  go_upto_region 1 with fail
  go_cut [18] from 10 to 18 (fun sv wx => sv = .bool true ∧ Below w.heap.size w wx)
  case first =>
    go_quiet (fail)
    all_goals (go_wp2_with fail; go_meet; exact ⟨rfl, below_drewN (Below.refl _ _) _⟩)
  case rest =>
  obtain ⟨rfl, hbw⟩ := hcut
  have NX := Lib.hid (NX0.out.carry hbw)
  have NY := Lib.hid (NY0.out.carry hbw)
  have HB := Lib.hid hbw
  clear hbw NX0 NY0
  obtain ⟨z0, z1, f0, f1, x0, x1, y0, y1⟩ := KEEP.out _ HB.out
  go_upto_region 1 with fail
  go_cut [7] from 10 to 34 (fun sv wx => CutNt (i.natAbs - 1) w wc sv wx)
  case first =>
    have HB : Hid (Below w.heap.size w wc.drew) := Lib.hid HB.out.drew
    have BB : Hid (Below wc.heap.size wc wc.drew) := Lib.hid (Below.refl _ _).drew
    have NX := Lib.hid (NX.out.carry BB.out)
    have NY := Lib.hid (NY.out.carry BB.out)
    go_region_with (first | (go_at_call 81; (with_reducible refine (op_lift HB.out (natOne_any _)).mono ?_); rintro e w4 ⟨o1, o2, o3, rfl, hp, hn, hbw, hbb⟩; (try have NX := Lib.hid (NX.out.carry hbb)); (try have NY := Lib.hid (NY.out.carry hbb)); (try have NX1 := Lib.hid (NX1.out.carry hbb)); (try have NY1 := Lib.hid (NY1.out.carry hbb)); (try have NO := Lib.hid (NO.out.carry hbb)); (try have NR := Lib.hid (NR.out.carry hbb)); have NO := Lib.hid hn; have HP := Lib.hid hp; have HB := Lib.hid hbw; obtain ⟨z0, z1, f0, f1, x0, x1, y0, y1⟩ := KEEP.out _ HB.out; have BB := Lib.hid (BB.out.trans (hbb.mono BB.out.size)); clear hn hp hbw hbb) | (go_at_call 80; (with_reducible refine (op_lift HB.out (natSub_any _ _ _ _ _ NX.out NO.out LX.out LEX.out)).mono ?_); rintro e w4 ⟨o1, o2, o3, rfl, hp, hn, hbw, hbb⟩; (try have NX := Lib.hid (NX.out.carry hbb)); (try have NY := Lib.hid (NY.out.carry hbb)); (try have NX1 := Lib.hid (NX1.out.carry hbb)); (try have NY1 := Lib.hid (NY1.out.carry hbb)); (try have NO := Lib.hid (NO.out.carry hbb)); (try have NR := Lib.hid (NR.out.carry hbb)); have NR := Lib.hid hn; have HP := Lib.hid hp; have HB := Lib.hid hbw; obtain ⟨z0, z1, f0, f1, x0, x1, y0, y1⟩ := KEEP.out _ HB.out; have BB := Lib.hid (BB.out.trans (hbb.mono BB.out.size)); clear hn hp hbw hbb))
    all_goals (go_wp2_with fail; go_meet; exact ⟨_, _, _, rfl, NR.out, HB.out, BB.out⟩)
  case rest =>
  obtain ⟨a7, n7, c7, rfl, hn, hbw, hbb⟩ := hcut
  have NX := Lib.hid (NX.out.carry hbb)
  have NY := Lib.hid (NY.out.carry hbb)
  have NX1 := Lib.hid hn
  have HB := Lib.hid hbw
  clear hn hbw hbb
  obtain ⟨z0, z1, f0, f1, x0, x1, y0, y1⟩ := KEEP.out _ HB.out
  go_upto_region 1 with fail
  go_cut [8] from 10 to 34 (fun sv wx => CutNt (j.natAbs - 1) w wc sv wx)
  case first =>
    have HB : Hid (Below w.heap.size w wc.drew) := Lib.hid HB.out.drew
    have BB : Hid (Below wc.heap.size wc wc.drew) := Lib.hid (Below.refl _ _).drew
    have NX := Lib.hid (NX.out.carry BB.out)
    have NY := Lib.hid (NY.out.carry BB.out)
    have NX1 := Lib.hid (NX1.out.carry BB.out)
    go_region_with (first | (go_at_call 81; (with_reducible refine (op_lift HB.out (natOne_any _)).mono ?_); rintro e w4 ⟨o1, o2, o3, rfl, hp, hn, hbw, hbb⟩; (try have NX := Lib.hid (NX.out.carry hbb)); (try have NY := Lib.hid (NY.out.carry hbb)); (try have NX1 := Lib.hid (NX1.out.carry hbb)); (try have NY1 := Lib.hid (NY1.out.carry hbb)); (try have NO := Lib.hid (NO.out.carry hbb)); (try have NR := Lib.hid (NR.out.carry hbb)); have NO := Lib.hid hn; have HP := Lib.hid hp; have HB := Lib.hid hbw; obtain ⟨z0, z1, f0, f1, x0, x1, y0, y1⟩ := KEEP.out _ HB.out; have BB := Lib.hid (BB.out.trans (hbb.mono BB.out.size)); clear hn hp hbw hbb) | (go_at_call 80; (with_reducible refine (op_lift HB.out (natSub_any _ _ _ _ _ NY.out NO.out LY.out LEY.out)).mono ?_); rintro e w4 ⟨o1, o2, o3, rfl, hp, hn, hbw, hbb⟩; (try have NX := Lib.hid (NX.out.carry hbb)); (try have NY := Lib.hid (NY.out.carry hbb)); (try have NX1 := Lib.hid (NX1.out.carry hbb)); (try have NY1 := Lib.hid (NY1.out.carry hbb)); (try have NO := Lib.hid (NO.out.carry hbb)); (try have NR := Lib.hid (NR.out.carry hbb)); have NR := Lib.hid hn; have HP := Lib.hid hp; have HB := Lib.hid hbw; obtain ⟨z0, z1, f0, f1, x0, x1, y0, y1⟩ := KEEP.out _ HB.out; have BB := Lib.hid (BB.out.trans (hbb.mono BB.out.size)); clear hn hp hbw hbb))
    all_goals (go_wp2_with fail; go_meet; exact ⟨_, _, _, rfl, NR.out, HB.out, BB.out⟩)
  case rest =>
  obtain ⟨a8, n8, c8, rfl, hn, hbw, hbb⟩ := hcut
  have NX := Lib.hid (NX.out.carry hbb)
  have NY := Lib.hid (NY.out.carry hbb)
  have NX1 := Lib.hid (NX1.out.carry hbb)
  have NY1 := Lib.hid hn
  have HB := Lib.hid hbw
  clear hn hbw hbb
  obtain ⟨z0, z1, f0, f1, x0, x1, y0, y1⟩ := KEEP.out _ HB.out
  go_upto_region 1 with fail
  go_cut [] from 10 to 50 (fun wx => AbsPut z (fand (i.natAbs - 1) (j.natAbs - 1) + 1) w wx)
  case first =>
    have HB : Hid (Below w.heap.size w wc.drew) := Lib.hid HB.out.drew
    have BB : Hid (Below wc.heap.size wc wc.drew) := Lib.hid (Below.refl _ _).drew
    have NX1 := Lib.hid (NX1.out.carry BB.out)
    have NY1 := Lib.hid (NY1.out.carry BB.out)
    go_region_with (first | (go_at_call 84; (with_reducible refine (op_lift HB.out (natAnd_any _ _ _ _ _ NX1.out NY1.out LX1.out LY1.out)).mono ?_); rintro e w4 ⟨o1, o2, o3, rfl, hp, hn, hbw, hbb⟩; (try have NX := Lib.hid (NX.out.carry hbb)); (try have NY := Lib.hid (NY.out.carry hbb)); (try have NX1 := Lib.hid (NX1.out.carry hbb)); (try have NY1 := Lib.hid (NY1.out.carry hbb)); (try have NO := Lib.hid (NO.out.carry hbb)); (try have NR := Lib.hid (NR.out.carry hbb)); have NR := Lib.hid hn; have HP := Lib.hid hp; have HB := Lib.hid hbw; obtain ⟨z0, z1, f0, f1, x0, x1, y0, y1⟩ := KEEP.out _ HB.out; clear hn hp hbw hbb) | (go_at_call 81; (with_reducible refine (op_lift HB.out (natOne_any _)).mono ?_); rintro e w4 ⟨o1, o2, o3, rfl, hp, hn, hbw, hbb⟩; (try have NX := Lib.hid (NX.out.carry hbb)); (try have NY := Lib.hid (NY.out.carry hbb)); (try have NX1 := Lib.hid (NX1.out.carry hbb)); (try have NY1 := Lib.hid (NY1.out.carry hbb)); (try have NO := Lib.hid (NO.out.carry hbb)); (try have NR := Lib.hid (NR.out.carry hbb)); have NO := Lib.hid hn; have HP := Lib.hid hp; have HB := Lib.hid hbw; obtain ⟨z0, z1, f0, f1, x0, x1, y0, y1⟩ := KEEP.out _ HB.out; clear hn hp hbw hbb) | (go_at_call 82; (with_reducible refine (op_lift HB.out (natAdd_any _ _ _ _ _ NR.out NO.out LR.out LONE.out)).mono ?_); rintro e w4 ⟨o1, o2, o3, rfl, hp, hn, hbw, hbb⟩; (try have NX := Lib.hid (NX.out.carry hbb)); (try have NY := Lib.hid (NY.out.carry hbb)); (try have NX1 := Lib.hid (NX1.out.carry hbb)); (try have NY1 := Lib.hid (NY1.out.carry hbb)); (try have NO := Lib.hid (NO.out.carry hbb)); (try have NR := Lib.hid (NR.out.carry hbb)); have NS := Lib.hid hn; have HP := Lib.hid hp; have HB := Lib.hid hbw; obtain ⟨z0, z1, f0, f1, x0, x1, y0, y1⟩ := KEEP.out _ HB.out; clear hn hp hbw hbb))
    all_goals (go_wp2_with fail; go_meet; exact ⟨_, _, _, _, rfl, HP.out, NS.out, HB.out⟩)
  case rest =>
  obtain ⟨av, nv, cv, w1, rfl, hpos, hn, hb⟩ := hcut
  obtain ⟨z0, z1, f0, f1, x0, x1, y0, y1⟩ := KEEP.out _ hb
  have G := Lib.hid (FIN.out _ w1 hn hb)
  clear hpos hn hb
  go_wp2_with fail
  go_ret
  exact G.out

end Go.Proofs.Ythnmkbdeoahiaaa

namespace Go.Proofs.Ythnmkbdeoahiaaa
open Go.RowKit Dig
set_option linter.unusedVariables false
set_option linter.unusedSimpArgs false
set_option maxRecDepth 100000
attribute [local go_sem ↓] Go.wp_at_zero Go.wp_at_succ

set_option maxHeartbeats 3200000 in
theorem bigOr_pn (z : Nat) (p q : Option Addr) (i j : Int) (w : World) (hz : Blk w z 89 [.bool false, .slice none 0 0]) (hx : Bg w w.heap.size p i) (hy : Bg w w.heap.size q j) (hne : p ≠ some ⟨z, 0, none⟩) (hne2 : q ≠ some ⟨z, 0, none⟩) (hl1 : i.natAbs < lim) (hl2 : j.natAbs < lim) (hi : 0 ≤ i) (hj : j < 0) :
    Calls Try.prog 59 #[.pointer (some ⟨z, 0, none⟩), .pointer p, .pointer q] w (PutPost z (orI i j) w) := by
  obtain ⟨b1, abs1, rfl, hb1, hk1, hn1⟩ := hx
  obtain ⟨b2, abs2, rfl, hb2, hk2, hn2⟩ := hy
  have hzb1 : ¬ b1 = z := fun h => hne (by rw [h])
  have hzb2 : ¬ b2 = z := fun h => hne2 (by rw [h])
  rw [show decide (i < 0) = false by simp; omega] at hk1
  rw [show decide (j < 0) = true by simp; omega] at hk2
  have hzl := hz.lt
  have KEEP : Hid (∀ w1, Below w.heap.size w w1 → w1.cell? ⟨z, 0, none⟩ = some (.bool false) ∧ w1.cell? ⟨z, 1, none⟩ = some (.slice none 0 0) ∧ w1.frozen? ⟨z, 0, none⟩ = false ∧ w1.frozen? ⟨z, 1, none⟩ = false ∧ w1.cell? ⟨b1, 0, none⟩ = some (.bool false) ∧ w1.cell? ⟨b1, 1, none⟩ = some abs1 ∧ w1.cell? ⟨b2, 0, none⟩ = some (.bool true) ∧ w1.cell? ⟨b2, 1, none⟩ = some abs2) := Lib.hid (by
    intro w1 hb
    have h := hz.below hb hzl
    have g1 := hk1.below hb hb1
    have g2 := hk2.below hb hb2
    exact ⟨h.cell 0 (by simp), h.cell 1 (by simp), h.free 0, h.free 1, g1.cell 0 (by simp), g1.cell 1 (by simp), g2.cell 0 (by simp), g2.cell 1 (by simp)⟩)
  have FIN : Hid (∀ (v : Value) (w1 : World), Nt w1 w1.heap.size v (anot (j.natAbs - 1) i.natAbs + 1) → Below w.heap.size w w1 → PutPost z (orI i j) w (.returned (.pointer (some ⟨z, 0, none⟩))) ((w1.setCell ⟨z, 1, none⟩ v).setCell ⟨z, 0, none⟩ (.bool true))) := Lib.hid (by
    intro v w1 h hb
    have e : (orI i j).natAbs = anot (j.natAbs - 1) i.natAbs + 1 := by unfold orI; rw [if_neg (by omega), if_pos hj]; omega
    exact put_nt hz rfl (by simp [wv]) (by rw [e]; exact h) hb _ (by exact (decide_eq_true (show orI i j < 0 by unfold orI; rw [if_neg (by omega), if_pos hj]; omega)).symm))
  have NX0 := Lib.hid hn1
  have NY0 := Lib.hid hn2
  have LX := Lib.hid hl1
  have LY := Lib.hid hl2
  have LONE := Lib.hid one_lim
  have LEY := Lib.hid (show 1 ≤ j.natAbs by omega)
  have LY1 := Lib.hid (show j.natAbs - 1 < lim by omega)
  have LR := Lib.hid (anot_lt (j.natAbs - 1) i.natAbs LY1.out)
  obtain ⟨z0, z1, f0, f1, x0, x1, y0, y1⟩ := KEEP.out _ (Below.refl _ w)
  clear hz hk1 hk2 hn1 hn2 hne hne2 hl1 hl2 hi hj hb1 hb2
  go_enter Try.func59, Try.ntmps59
  go_upto_region 1 with fail
  go_cut [18] from 10 to 18 (fun sv wx => sv = .bool false ∧ Below w.heap.size w wx)
  case first =>
    go_quiet (fail)
    all_goals (go_wp2_with fail; go_meet; exact ⟨rfl, below_drewN (Below.refl _ _) _⟩)
  case rest =>
  obtain ⟨rfl, hbw⟩ := hcut
  have NX := Lib.hid (NX0.out.carry hbw)
  have NY := Lib.hid (NY0.out.carry hbw)
  have HB := Lib.hid hbw
  clear hbw NX0 NY0
  obtain ⟨z0, z1, f0, f1, x0, x1, y0, y1⟩ := KEEP.out _ HB.out
  go_upto_region 1 with fail
  go_cut [9] from 10 to 86 (fun sv wx => CutNt (j.natAbs - 1) w wc sv wx)
  case first =>
    have HB : Hid (Below w.heap.size w wc.drew) := Lib.hid HB.out.drew
    have BB : Hid (Below wc.heap.size wc wc.drew) := Lib.hid (Below.refl _ _).drew
    have NX := Lib.hid (NX.out.carry BB.out)
    have NY := Lib.hid (NY.out.carry BB.out)
    go_region_with (first | (go_at_call 81; (with_reducible refine (op_lift HB.out (natOne_any _)).mono ?_); rintro e w4 ⟨o1, o2, o3, rfl, hp, hn, hbw, hbb⟩; (try have NX := Lib.hid (NX.out.carry hbb)); (try have NY := Lib.hid (NY.out.carry hbb)); (try have NX1 := Lib.hid (NX1.out.carry hbb)); (try have NY1 := Lib.hid (NY1.out.carry hbb)); (try have NO := Lib.hid (NO.out.carry hbb)); (try have NR := Lib.hid (NR.out.carry hbb)); have NO := Lib.hid hn; have HP := Lib.hid hp; have HB := Lib.hid hbw; obtain ⟨z0, z1, f0, f1, x0, x1, y0, y1⟩ := KEEP.out _ HB.out; have BB := Lib.hid (BB.out.trans (hbb.mono BB.out.size)); clear hn hp hbw hbb) | (go_at_call 80; (with_reducible refine (op_lift HB.out (natSub_any _ _ _ _ _ NY.out NO.out LY.out LEY.out)).mono ?_); rintro e w4 ⟨o1, o2, o3, rfl, hp, hn, hbw, hbb⟩; (try have NX := Lib.hid (NX.out.carry hbb)); (try have NY := Lib.hid (NY.out.carry hbb)); (try have NX1 := Lib.hid (NX1.out.carry hbb)); (try have NY1 := Lib.hid (NY1.out.carry hbb)); (try have NO := Lib.hid (NO.out.carry hbb)); (try have NR := Lib.hid (NR.out.carry hbb)); have NR := Lib.hid hn; have HP := Lib.hid hp; have HB := Lib.hid hbw; obtain ⟨z0, z1, f0, f1, x0, x1, y0, y1⟩ := KEEP.out _ HB.out; have BB := Lib.hid (BB.out.trans (hbb.mono BB.out.size)); clear hn hp hbw hbb))
    all_goals (go_wp2_with fail; go_meet; exact ⟨_, _, _, rfl, NR.out, HB.out, BB.out⟩)
  case rest =>
  obtain ⟨a9, n9, c9, rfl, hn, hbw, hbb⟩ := hcut
  have NX := Lib.hid (NX.out.carry hbb)
  have NY := Lib.hid (NY.out.carry hbb)
  have NY1 := Lib.hid hn
  have HB := Lib.hid hbw
  clear hn hbw hbb
  obtain ⟨z0, z1, f0, f1, x0, x1, y0, y1⟩ := KEEP.out _ HB.out
  go_upto_region 1 with fail
  go_cut [] from 10 to 105 (fun wx => AbsPut z (anot (j.natAbs - 1) i.natAbs + 1) w wx)
  case first =>
    have HB : Hid (Below w.heap.size w wc.drew) := Lib.hid HB.out.drew
    have BB : Hid (Below wc.heap.size wc wc.drew) := Lib.hid (Below.refl _ _).drew
    have NX := Lib.hid (NX.out.carry BB.out)
    have NY1 := Lib.hid (NY1.out.carry BB.out)
    go_region_with (first | (go_at_call 85; (with_reducible refine (op_lift HB.out (natAndNot_any _ _ _ _ _ NY1.out NX.out LY1.out LX.out)).mono ?_); rintro e w4 ⟨o1, o2, o3, rfl, hp, hn, hbw, hbb⟩; (try have NX := Lib.hid (NX.out.carry hbb)); (try have NY := Lib.hid (NY.out.carry hbb)); (try have NX1 := Lib.hid (NX1.out.carry hbb)); (try have NY1 := Lib.hid (NY1.out.carry hbb)); (try have NO := Lib.hid (NO.out.carry hbb)); (try have NR := Lib.hid (NR.out.carry hbb)); have NR := Lib.hid hn; have HP := Lib.hid hp; have HB := Lib.hid hbw; obtain ⟨z0, z1, f0, f1, x0, x1, y0, y1⟩ := KEEP.out _ HB.out; clear hn hp hbw hbb) | (go_at_call 81; (with_reducible refine (op_lift HB.out (natOne_any _)).mono ?_); rintro e w4 ⟨o1, o2, o3, rfl, hp, hn, hbw, hbb⟩; (try have NX := Lib.hid (NX.out.carry hbb)); (try have NY := Lib.hid (NY.out.carry hbb)); (try have NX1 := Lib.hid (NX1.out.carry hbb)); (try have NY1 := Lib.hid (NY1.out.carry hbb)); (try have NO := Lib.hid (NO.out.carry hbb)); (try have NR := Lib.hid (NR.out.carry hbb)); have NO := Lib.hid hn; have HP := Lib.hid hp; have HB := Lib.hid hbw; obtain ⟨z0, z1, f0, f1, x0, x1, y0, y1⟩ := KEEP.out _ HB.out; clear hn hp hbw hbb) | (go_at_call 82; (with_reducible refine (op_lift HB.out (natAdd_any _ _ _ _ _ NR.out NO.out LR.out LONE.out)).mono ?_); rintro e w4 ⟨o1, o2, o3, rfl, hp, hn, hbw, hbb⟩; (try have NX := Lib.hid (NX.out.carry hbb)); (try have NY := Lib.hid (NY.out.carry hbb)); (try have NX1 := Lib.hid (NX1.out.carry hbb)); (try have NY1 := Lib.hid (NY1.out.carry hbb)); (try have NO := Lib.hid (NO.out.carry hbb)); (try have NR := Lib.hid (NR.out.carry hbb)); have NS := Lib.hid hn; have HP := Lib.hid hp; have HB := Lib.hid hbw; obtain ⟨z0, z1, f0, f1, x0, x1, y0, y1⟩ := KEEP.out _ HB.out; clear hn hp hbw hbb))
    all_goals (go_wp2_with fail; go_meet; exact ⟨_, _, _, _, rfl, HP.out, NS.out, HB.out⟩)
  case rest =>
  obtain ⟨av, nv, cv, w1, rfl, hpos, hn, hb⟩ := hcut
  obtain ⟨z0, z1, f0, f1, x0, x1, y0, y1⟩ := KEEP.out _ hb
  have G := Lib.hid (FIN.out _ w1 hn hb)
  clear hpos hn hb
  go_wp2_with fail
  go_ret
  exact G.out

set_option maxHeartbeats 3200000 in
theorem bigOr_np (z : Nat) (p q : Option Addr) (i j : Int) (w : World) (hz : Blk w z 89 [.bool false, .slice none 0 0]) (hx : Bg w w.heap.size p i) (hy : Bg w w.heap.size q j) (hne : p ≠ some ⟨z, 0, none⟩) (hne2 : q ≠ some ⟨z, 0, none⟩) (hl1 : i.natAbs < lim) (hl2 : j.natAbs < lim) (hi : i < 0) (hj : 0 ≤ j) :
    Calls Try.prog 59 #[.pointer (some ⟨z, 0, none⟩), .pointer p, .pointer q] w (PutPost z (orI i j) w) := by
  obtain ⟨b1, abs1, rfl, hb1, hk1, hn1⟩ := hx
  obtain ⟨b2, abs2, rfl, hb2, hk2, hn2⟩ := hy
  have hzb1 : ¬ b1 = z := fun h => hne (by rw [h])
  have hzb2 : ¬ b2 = z := fun h => hne2 (by rw [h])
  rw [show decide (i < 0) = true by simp; omega] at hk1
  rw [show decide (j < 0) = false by simp; omega] at hk2
  have hzl := hz.lt
  have KEEP : Hid (∀ w1, Below w.heap.size w w1 → w1.cell? ⟨z, 0, none⟩ = some (.bool false) ∧ w1.cell? ⟨z, 1, none⟩ = some (.slice none 0 0) ∧ w1.frozen? ⟨z, 0, none⟩ = false ∧ w1.frozen? ⟨z, 1, none⟩ = false ∧ w1.cell? ⟨b1, 0, none⟩ = some (.bool true) ∧ w1.cell? ⟨b1, 1, none⟩ = some abs1 ∧ w1.cell? ⟨b2, 0, none⟩ = some (.bool false) ∧ w1.cell? ⟨b2, 1, none⟩ = some abs2) := Lib.hid (by
    intro w1 hb
    have h := hz.below hb hzl
    have g1 := hk1.below hb hb1
    have g2 := hk2.below hb hb2
    exact ⟨h.cell 0 (by simp), h.cell 1 (by simp), h.free 0, h.free 1, g1.cell 0 (by simp), g1.cell 1 (by simp), g2.cell 0 (by simp), g2.cell 1 (by simp)⟩)
  have FIN : Hid (∀ (v : Value) (w1 : World), Nt w1 w1.heap.size v (anot (i.natAbs - 1) j.natAbs + 1) → Below w.heap.size w w1 → PutPost z (orI i j) w (.returned (.pointer (some ⟨z, 0, none⟩))) ((w1.setCell ⟨z, 1, none⟩ v).setCell ⟨z, 0, none⟩ (.bool true))) := Lib.hid (by
    intro v w1 h hb
    have e : (orI i j).natAbs = anot (i.natAbs - 1) j.natAbs + 1 := by unfold orI; rw [if_pos hi, if_neg (by omega)]; omega
    exact put_nt hz rfl (by simp [wv]) (by rw [e]; exact h) hb _ (by exact (decide_eq_true (show orI i j < 0 by unfold orI; rw [if_pos hi, if_neg (by omega)]; omega)).symm))
  have NX0 := Lib.hid hn1
  have NY0 := Lib.hid hn2
  have LX := Lib.hid hl1
  have LY := Lib.hid hl2
  have LONE := Lib.hid one_lim
  have LEX := Lib.hid (show 1 ≤ i.natAbs by omega)
  have LX1 := Lib.hid (show i.natAbs - 1 < lim by omega)
  have LR := Lib.hid (anot_lt (i.natAbs - 1) j.natAbs LX1.out)
  obtain ⟨z0, z1, f0, f1, x0, x1, y0, y1⟩ := KEEP.out _ (Below.refl _ w)
  clear hz hk1 hk2 hn1 hn2 hne hne2 hl1 hl2 hi hj hb1 hb2
  go_enter Try.func59, Try.ntmps59
  go_upto_region 1 with fail
  go_cut [18] from 10 to 18 (fun sv wx => sv = .bool false ∧ Below w.heap.size w wx)
  case first =>
    go_quiet (fail)
    all_goals (go_wp2_with fail; go_meet; exact ⟨rfl, below_drewN (Below.refl _ _) _⟩)
  case rest =>
  obtain ⟨rfl, hbw⟩ := hcut
  have NX := Lib.hid (NX0.out.carry hbw)
  have NY := Lib.hid (NY0.out.carry hbw)
  have HB := Lib.hid hbw
  clear hbw NX0 NY0
  obtain ⟨z0, z1, f0, f1, x0, x1, y0, y1⟩ := KEEP.out _ HB.out
  go_upto_region 1 with fail
  go_cut [9] from 10 to 86 (fun sv wx => CutNt (i.natAbs - 1) w wc sv wx)
  case first =>
    have HB : Hid (Below w.heap.size w wc.drew) := Lib.hid HB.out.drew
    have BB : Hid (Below wc.heap.size wc wc.drew) := Lib.hid (Below.refl _ _).drew
    have NX := Lib.hid (NX.out.carry BB.out)
    have NY := Lib.hid (NY.out.carry BB.out)
    go_region_with (first | (go_at_call 81; (with_reducible refine (op_lift HB.out (natOne_any _)).mono ?_); rintro e w4 ⟨o1, o2, o3, rfl, hp, hn, hbw, hbb⟩; (try have NX := Lib.hid (NX.out.carry hbb)); (try have NY := Lib.hid (NY.out.carry hbb)); (try have NX1 := Lib.hid (NX1.out.carry hbb)); (try have NY1 := Lib.hid (NY1.out.carry hbb)); (try have NO := Lib.hid (NO.out.carry hbb)); (try have NR := Lib.hid (NR.out.carry hbb)); have NO := Lib.hid hn; have HP := Lib.hid hp; have HB := Lib.hid hbw; obtain ⟨z0, z1, f0, f1, x0, x1, y0, y1⟩ := KEEP.out _ HB.out; have BB := Lib.hid (BB.out.trans (hbb.mono BB.out.size)); clear hn hp hbw hbb) | (go_at_call 80; (with_reducible refine (op_lift HB.out (natSub_any _ _ _ _ _ NX.out NO.out LX.out LEX.out)).mono ?_); rintro e w4 ⟨o1, o2, o3, rfl, hp, hn, hbw, hbb⟩; (try have NX := Lib.hid (NX.out.carry hbb)); (try have NY := Lib.hid (NY.out.carry hbb)); (try have NX1 := Lib.hid (NX1.out.carry hbb)); (try have NY1 := Lib.hid (NY1.out.carry hbb)); (try have NO := Lib.hid (NO.out.carry hbb)); (try have NR := Lib.hid (NR.out.carry hbb)); have NR := Lib.hid hn; have HP := Lib.hid hp; have HB := Lib.hid hbw; obtain ⟨z0, z1, f0, f1, x0, x1, y0, y1⟩ := KEEP.out _ HB.out; have BB := Lib.hid (BB.out.trans (hbb.mono BB.out.size)); clear hn hp hbw hbb))
    all_goals (go_wp2_with fail; go_meet; exact ⟨_, _, _, rfl, NR.out, HB.out, BB.out⟩)
  case rest =>
  obtain ⟨a9, n9, c9, rfl, hn, hbw, hbb⟩ := hcut
  have NX := Lib.hid (NX.out.carry hbb)
  have NY := Lib.hid (NY.out.carry hbb)
  have NX1 := Lib.hid hn
  have HB := Lib.hid hbw
  clear hn hbw hbb
  obtain ⟨z0, z1, f0, f1, x0, x1, y0, y1⟩ := KEEP.out _ HB.out
  go_upto_region 1 with fail
  go_cut [] from 10 to 105 (fun wx => AbsPut z (anot (i.natAbs - 1) j.natAbs + 1) w wx)
  case first =>
    have HB : Hid (Below w.heap.size w wc.drew) := Lib.hid HB.out.drew
    have BB : Hid (Below wc.heap.size wc wc.drew) := Lib.hid (Below.refl _ _).drew
    have NY := Lib.hid (NY.out.carry BB.out)
    have NX1 := Lib.hid (NX1.out.carry BB.out)
    go_region_with (first | (go_at_call 85; (with_reducible refine (op_lift HB.out (natAndNot_any _ _ _ _ _ NX1.out NY.out LX1.out LY.out)).mono ?_); rintro e w4 ⟨o1, o2, o3, rfl, hp, hn, hbw, hbb⟩; (try have NX := Lib.hid (NX.out.carry hbb)); (try have NY := Lib.hid (NY.out.carry hbb)); (try have NX1 := Lib.hid (NX1.out.carry hbb)); (try have NY1 := Lib.hid (NY1.out.carry hbb)); (try have NO := Lib.hid (NO.out.carry hbb)); (try have NR := Lib.hid (NR.out.carry hbb)); have NR := Lib.hid hn; have HP := Lib.hid hp; have HB := Lib.hid hbw; obtain ⟨z0, z1, f0, f1, x0, x1, y0, y1⟩ := KEEP.out _ HB.out; clear hn hp hbw hbb) | (go_at_call 81; (with_reducible refine (op_lift HB.out (natOne_any _)).mono ?_); rintro e w4 ⟨o1, o2, o3, rfl, hp, hn, hbw, hbb⟩; (try have NX := Lib.hid (NX.out.carry hbb)); (try have NY := Lib.hid (NY.out.carry hbb)); (try have NX1 := Lib.hid (NX1.out.carry hbb)); (try have NY1 := Lib.hid (NY1.out.carry hbb)); (try have NO := Lib.hid (NO.out.carry hbb)); (try have NR := Lib.hid (NR.out.carry hbb)); have NO := Lib.hid hn; have HP := Lib.hid hp; have HB := Lib.hid hbw; obtain ⟨z0, z1, f0, f1, x0, x1, y0, y1⟩ := KEEP.out _ HB.out; clear hn hp hbw hbb) | (go_at_call 82; (with_reducible refine (op_lift HB.out (natAdd_any _ _ _ _ _ NR.out NO.out LR.out LONE.out)).mono ?_); rintro e w4 ⟨o1, o2, o3, rfl, hp, hn, hbw, hbb⟩; (try have NX := Lib.hid (NX.out.carry hbb)); (try have NY := Lib.hid (NY.out.carry hbb)); (try have NX1 := Lib.hid (NX1.out.carry hbb)); (try have NY1 := Lib.hid (NY1.out.carry hbb)); (try have NO := Lib.hid (NO.out.carry hbb)); (try have NR := Lib.hid (NR.out.carry hbb)); have NS := Lib.hid hn; have HP := Lib.hid hp; have HB := Lib.hid hbw; obtain ⟨z0, z1, f0, f1, x0, x1, y0, y1⟩ := KEEP.out _ HB.out; clear hn hp hbw hbb))
    all_goals (go_wp2_with fail; go_meet; exact ⟨_, _, _, _, rfl, HP.out, NS.out, HB.out⟩)
  case rest =>
  obtain ⟨av, nv, cv, w1, rfl, hpos, hn, hb⟩ := hcut
  obtain ⟨z0, z1, f0, f1, x0, x1, y0, y1⟩ := KEEP.out _ hb
  have G := Lib.hid (FIN.out _ w1 hn hb)
  clear hpos hn hb
  go_wp2_with fail
  go_ret
  exact G.out

end Go.Proofs.Ythnmkbdeoahiaaa

namespace Go.Proofs.Ythnmkbdeoahiaaa
open Go.RowKit Dig
set_option linter.unusedVariables false
set_option linter.unusedSimpArgs false
set_option maxRecDepth 100000
attribute [local go_sem ↓] Go.wp_at_zero Go.wp_at_succ

theorem bigOr_any (z : Nat) (p q : Option Addr) (i j : Int) (w : World) (hz : Blk w z 89 [.bool false, .slice none 0 0]) (hx : Bg w w.heap.size p i) (hy : Bg w w.heap.size q j) (hne : p ≠ some ⟨z, 0, none⟩) (hne2 : q ≠ some ⟨z, 0, none⟩) (hl1 : i.natAbs < lim) (hl2 : j.natAbs < lim) :
    Calls Try.prog 59 #[.pointer (some ⟨z, 0, none⟩), .pointer p, .pointer q] w (PutPost z (orI i j) w) := by
  rcases Int.lt_or_le i 0 with hi | hi <;> rcases Int.lt_or_le j 0 with hj | hj
  · exact bigOr_nn z p q i j w hz hx hy hne hne2 hl1 hl2 hi hj
  · exact bigOr_np z p q i j w hz hx hy hne hne2 hl1 hl2 hi hj
  · exact bigOr_pn z p q i j w hz hx hy hne hne2 hl1 hl2 hi hj
  · exact bigOr_pp z p q i j w hz hx hy hne hne2 hl1 hl2 hi hj

end Go.Proofs.Ythnmkbdeoahiaaa
