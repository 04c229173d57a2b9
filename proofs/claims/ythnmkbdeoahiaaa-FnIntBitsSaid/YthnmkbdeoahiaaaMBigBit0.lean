/- The words for the operators bit by bit of *big.Int. (*Int).Not into a fresh integer. -/
import Derived.Test.YthnmkbdeoahiaaaBigAdd
import Derived.Test.YthnmkbdeoahiaaaMNatBits
import Derived.Test.YthnmkbdeoahiaaaBitInt
import Derived.Deep.DrawnRows
namespace Go.Proofs.Ythnmkbdeoahiaaa
open Go.RowKit Dig
set_option linter.unusedVariables false
set_option linter.unusedSimpArgs false
set_option maxRecDepth 100000
attribute [local go_sem ↓] Go.wp_at_zero Go.wp_at_succ

/-- what an operation of words leaves, at a world that stands behind w -/
def OpPost (m : Nat) (w W : World) (e : Ending) (w' : World) : Prop :=
  ∃ a n c, e = .returned (.slice a n c) ∧ (0 < n ↔ 0 < m) ∧ Nt w' w'.heap.size (.slice a n c) m ∧ Below w.heap.size w w' ∧ Below W.heap.size W w'
theorem op_lift {f : FuncId} {args : Array Value} {m : Nat} {w W : World} (hb : Below w.heap.size w W) (C : Calls Try.prog f args W (NtPost m W)) : Calls Try.prog f args W (OpPost m w W) := by
  refine C.mono ?_
  rintro e w' ⟨v, rfl, hn, hb2⟩
  obtain ⟨a, n, c, rfl, hp⟩ := hn.form
  exact ⟨a, n, c, rfl, hp, hn, hb.trans (hb2.mono hb.size), hb2⟩
theorem Nt.carry {W w' : World} {v : Value} {m : Nat} (h : Nt W W.heap.size v m) (hb : Below W.heap.size W w') : Nt w' w'.heap.size v m := (h.below hb).more hb.size
/-- a number in a slot -/
def CutNt (m : Nat) (w wp : World) (v : Value) (wx : World) : Prop :=
  ∃ a n c, v = .slice a n c ∧ Nt wx wx.heap.size (.slice a n c) m ∧ Below w.heap.size w wx ∧ Below wp.heap.size wp wx
theorem anot_lt (a b : Nat) (ha : a < lim) : anot a b < lim := by have := anot_fand a b; omega
theorem fand_lt (a b : Nat) (ha : a < lim) : fand a b < lim := Nat.lt_of_le_of_lt (and_le a b).1 ha
theorem forr_lt (a b : Nat) (ha : a < lim) (hb : b < lim) : forr a b < lim := by rw [lim_pow] at *; exact bitw_or.lt_words ha hb
theorem fxor_lt (a b : Nat) (ha : a < lim) (hb : b < lim) : fxor a b < lim := by rw [lim_pow] at *; exact bitw_xor.lt_words ha hb
theorem one_lim : 1 < lim := lt_lim (j := 1) (by decide) (by omega)

end Go.Proofs.Ythnmkbdeoahiaaa

namespace Go.Proofs.Ythnmkbdeoahiaaa
open Go.RowKit Dig
set_option linter.unusedVariables false
set_option linter.unusedSimpArgs false
set_option maxRecDepth 100000
attribute [local go_sem ↓] Go.wp_at_zero Go.wp_at_succ

set_option maxHeartbeats 3200000 in
theorem bigNot_n (z : Nat) (p : Option Addr) (i : Int) (w : World) (hz : Blk w z 89 [.bool false, .slice none 0 0]) (hx : Bg w w.heap.size p i) (hne : p ≠ some ⟨z, 0, none⟩) (hl1 : i.natAbs < lim) (hi : i < 0) :
    Calls Try.prog 66 #[.pointer (some ⟨z, 0, none⟩), .pointer p] w (PutPost z (notI i) w) := by
  obtain ⟨b1, abs1, rfl, hb1, hk1, hn1⟩ := hx
  have hzb1 : ¬ b1 = z := fun h => hne (by rw [h])
  rw [show decide (i < 0) = true by simp; omega] at hk1
  have hzl := hz.lt
  have KEEP : Hid (∀ w1, Below w.heap.size w w1 → w1.cell? ⟨z, 0, none⟩ = some (.bool false) ∧ w1.cell? ⟨z, 1, none⟩ = some (.slice none 0 0) ∧ w1.frozen? ⟨z, 0, none⟩ = false ∧ w1.frozen? ⟨z, 1, none⟩ = false ∧ w1.cell? ⟨b1, 0, none⟩ = some (.bool true) ∧ w1.cell? ⟨b1, 1, none⟩ = some abs1) := Lib.hid (by
    intro w1 hb
    have h := hz.below hb hzl
    have g1 := hk1.below hb hb1
    exact ⟨h.cell 0 (by simp), h.cell 1 (by simp), h.free 0, h.free 1, g1.cell 0 (by simp), g1.cell 1 (by simp)⟩)
  have FIN : Hid (∀ (v : Value) (w1 : World), Nt w1 w1.heap.size v (i.natAbs - 1) → Below w.heap.size w w1 → PutPost z (notI i) w (.returned (.pointer (some ⟨z, 0, none⟩))) ((w1.setCell ⟨z, 1, none⟩ v).setCell ⟨z, 0, none⟩ (.bool false))) := Lib.hid (by
    intro v w1 h hb
    have e : (notI i).natAbs = i.natAbs - 1 := by unfold notI; omega
    exact put_nt hz rfl (by simp [wv]) (by rw [e]; exact h) hb _ (by exact (decide_eq_false (show ¬ notI i < 0 by unfold notI; omega)).symm))
  have NX := Lib.hid hn1
  have LX := Lib.hid hl1
  have LONE := Lib.hid one_lim
  have HB : Hid (Below w.heap.size w w) := Lib.hid (Below.refl _ _)
  have LEX := Lib.hid (show 1 ≤ i.natAbs by omega)
  clear hz hk1 hn1 hne hl1 hi hb1
  obtain ⟨z0, z1, f0, f1, x0, x1⟩ := KEEP.out _ HB.out
  go_enter Try.func66, Try.ntmps66
  go_wp2_with fail
  go_upto_region 1 with fail
  go_cut [] from 10 to 21 (fun wx => AbsPut z (i.natAbs - 1) w wx)
  case first =>
    have HB : Hid (Below w.heap.size w w.drew) := Lib.hid HB.out.drew
    have BB : Hid (Below w.heap.size w w.drew) := Lib.hid (Below.refl _ _).drew
    have NX := Lib.hid (NX.out.carry BB.out)
    go_region_with (first | (go_at_call 81; (with_reducible refine (op_lift HB.out (natOne_any _)).mono ?_); rintro e w4 ⟨o1, o2, o3, rfl, hp, hn, hbw, hbb⟩; (try have NX := Lib.hid (NX.out.carry hbb)); (try have NY := Lib.hid (NY.out.carry hbb)); (try have NX1 := Lib.hid (NX1.out.carry hbb)); (try have NY1 := Lib.hid (NY1.out.carry hbb)); (try have NO := Lib.hid (NO.out.carry hbb)); (try have NR := Lib.hid (NR.out.carry hbb)); have NO := Lib.hid hn; have HP := Lib.hid hp; have HB := Lib.hid hbw; obtain ⟨z0, z1, f0, f1, x0, x1⟩ := KEEP.out _ HB.out; clear hn hp hbw hbb) | (go_at_call 80; (with_reducible refine (op_lift HB.out (natSub_any _ _ _ _ _ NX.out NO.out LX.out LEX.out)).mono ?_); rintro e w4 ⟨o1, o2, o3, rfl, hp, hn, hbw, hbb⟩; (try have NX := Lib.hid (NX.out.carry hbb)); (try have NY := Lib.hid (NY.out.carry hbb)); (try have NX1 := Lib.hid (NX1.out.carry hbb)); (try have NY1 := Lib.hid (NY1.out.carry hbb)); (try have NO := Lib.hid (NO.out.carry hbb)); (try have NR := Lib.hid (NR.out.carry hbb)); have NR := Lib.hid hn; have HP := Lib.hid hp; have HB := Lib.hid hbw; obtain ⟨z0, z1, f0, f1, x0, x1⟩ := KEEP.out _ HB.out; clear hn hp hbw hbb))
    all_goals (go_wp2_with fail; go_meet; exact ⟨_, _, _, _, rfl, HP.out, NR.out, HB.out⟩)
  case rest =>
  obtain ⟨av, nv, cv, w1, rfl, hpos, hn, hb⟩ := hcut
  obtain ⟨z0, z1, f0, f1, x0, x1⟩ := KEEP.out _ hb
  have G := Lib.hid (FIN.out _ w1 hn hb)
  clear hpos hn hb
  go_wp2_with fail
  go_ret
  exact G.out

set_option maxHeartbeats 3200000 in
theorem bigNot_p (z : Nat) (p : Option Addr) (i : Int) (w : World) (hz : Blk w z 89 [.bool false, .slice none 0 0]) (hx : Bg w w.heap.size p i) (hne : p ≠ some ⟨z, 0, none⟩) (hl1 : i.natAbs < lim) (hi : 0 ≤ i) :
    Calls Try.prog 66 #[.pointer (some ⟨z, 0, none⟩), .pointer p] w (PutPost z (notI i) w) := by
  obtain ⟨b1, abs1, rfl, hb1, hk1, hn1⟩ := hx
  have hzb1 : ¬ b1 = z := fun h => hne (by rw [h])
  rw [show decide (i < 0) = false by simp; omega] at hk1
  have hzl := hz.lt
  have KEEP : Hid (∀ w1, Below w.heap.size w w1 → w1.cell? ⟨z, 0, none⟩ = some (.bool false) ∧ w1.cell? ⟨z, 1, none⟩ = some (.slice none 0 0) ∧ w1.frozen? ⟨z, 0, none⟩ = false ∧ w1.frozen? ⟨z, 1, none⟩ = false ∧ w1.cell? ⟨b1, 0, none⟩ = some (.bool false) ∧ w1.cell? ⟨b1, 1, none⟩ = some abs1) := Lib.hid (by
    intro w1 hb
    have h := hz.below hb hzl
    have g1 := hk1.below hb hb1
    exact ⟨h.cell 0 (by simp), h.cell 1 (by simp), h.free 0, h.free 1, g1.cell 0 (by simp), g1.cell 1 (by simp)⟩)
  have FIN : Hid (∀ (v : Value) (w1 : World), Nt w1 w1.heap.size v (i.natAbs + 1) → Below w.heap.size w w1 → PutPost z (notI i) w (.returned (.pointer (some ⟨z, 0, none⟩))) ((w1.setCell ⟨z, 1, none⟩ v).setCell ⟨z, 0, none⟩ (.bool true))) := Lib.hid (by
    intro v w1 h hb
    have e : (notI i).natAbs = i.natAbs + 1 := by unfold notI; omega
    exact put_nt hz rfl (by simp [wv]) (by rw [e]; exact h) hb _ (by exact (decide_eq_true (show notI i < 0 by unfold notI; omega)).symm))
  have NX := Lib.hid hn1
  have LX := Lib.hid hl1
  have LONE := Lib.hid one_lim
  have HB : Hid (Below w.heap.size w w) := Lib.hid (Below.refl _ _)
  clear hz hk1 hn1 hne hl1 hi hb1
  obtain ⟨z0, z1, f0, f1, x0, x1⟩ := KEEP.out _ HB.out
  go_enter Try.func66, Try.ntmps66
  go_wp2_with fail
  go_upto_region 1 with fail
  go_cut [] from 10 to 38 (fun wx => AbsPut z (i.natAbs + 1) w wx)
  case first =>
    have HB : Hid (Below w.heap.size w w.drew) := Lib.hid HB.out.drew
    have BB : Hid (Below w.heap.size w w.drew) := Lib.hid (Below.refl _ _).drew
    have NX := Lib.hid (NX.out.carry BB.out)
    go_region_with (first | (go_at_call 81; (with_reducible refine (op_lift HB.out (natOne_any _)).mono ?_); rintro e w4 ⟨o1, o2, o3, rfl, hp, hn, hbw, hbb⟩; (try have NX := Lib.hid (NX.out.carry hbb)); (try have NY := Lib.hid (NY.out.carry hbb)); (try have NX1 := Lib.hid (NX1.out.carry hbb)); (try have NY1 := Lib.hid (NY1.out.carry hbb)); (try have NO := Lib.hid (NO.out.carry hbb)); (try have NR := Lib.hid (NR.out.carry hbb)); have NO := Lib.hid hn; have HP := Lib.hid hp; have HB := Lib.hid hbw; obtain ⟨z0, z1, f0, f1, x0, x1⟩ := KEEP.out _ HB.out; clear hn hp hbw hbb) | (go_at_call 82; (with_reducible refine (op_lift HB.out (natAdd_any _ _ _ _ _ NX.out NO.out LX.out LONE.out)).mono ?_); rintro e w4 ⟨o1, o2, o3, rfl, hp, hn, hbw, hbb⟩; (try have NX := Lib.hid (NX.out.carry hbb)); (try have NY := Lib.hid (NY.out.carry hbb)); (try have NX1 := Lib.hid (NX1.out.carry hbb)); (try have NY1 := Lib.hid (NY1.out.carry hbb)); (try have NO := Lib.hid (NO.out.carry hbb)); (try have NR := Lib.hid (NR.out.carry hbb)); have NS := Lib.hid hn; have HP := Lib.hid hp; have HB := Lib.hid hbw; obtain ⟨z0, z1, f0, f1, x0, x1⟩ := KEEP.out _ HB.out; clear hn hp hbw hbb))
    all_goals (go_wp2_with fail; go_meet; exact ⟨_, _, _, _, rfl, HP.out, NS.out, HB.out⟩)
  case rest =>
  obtain ⟨av, nv, cv, w1, rfl, hpos, hn, hb⟩ := hcut
  obtain ⟨z0, z1, f0, f1, x0, x1⟩ := KEEP.out _ hb
  have G := Lib.hid (FIN.out _ w1 hn hb)
  clear hpos hn hb
  go_wp2_with fail
  go_ret
  exact G.out

theorem bigNot_any (z : Nat) (p : Option Addr) (i : Int) (w : World) (hz : Blk w z 89 [.bool false, .slice none 0 0]) (hx : Bg w w.heap.size p i) (hne : p ≠ some ⟨z, 0, none⟩) (hl1 : i.natAbs < lim) :
    Calls Try.prog 66 #[.pointer (some ⟨z, 0, none⟩), .pointer p] w (PutPost z (notI i) w) := by
  rcases Int.lt_or_le i 0 with hi | hi
  · exact bigNot_n z p i w hz hx hne hl1 hi
  · exact bigNot_p z p i w hz hx hne hl1 hi

end Go.Proofs.Ythnmkbdeoahiaaa
