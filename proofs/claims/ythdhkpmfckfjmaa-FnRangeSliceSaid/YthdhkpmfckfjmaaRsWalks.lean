/- Contracts of the functions that FnRangeSlice calls: each returns what the plain functions of RsMath say, for int32 numbers and steps that are not 0. -/
import Derived.Test.YthdhkpmfckfjmaaRows
import Derived.Test.YthdhkpmfckfjmaaRsMath
import Derived.WalkKit
import Derived.ProofKit
import Derived.Handy
import Derived.Lib.Hide
import Derived.Deep.QuietTactic
import Derived.BigQuiet
import Derived.WalkSmall
namespace Go.Proofs.Ythdhkpmfckfjmaa
open Go.RowKit Rs
set_option linter.unusedVariables false

theorem ret_int {k : IntKind} {a b : Int} (h : a = b) : Ending.returned (.int k a) = .returned (.int k b) := by rw [h]

theorem wrap3264 (n : Int) : wrap64 (wrap32 n) = wrap32 n := by unfold wrap64 wrap32; omega
theorem wrap32_bd (n : Int) : -2147483648 ≤ wrap32 n ∧ wrap32 n ≤ 2147483647 := by unfold wrap32; omega

theorem w32_any (n : Int) (w : World) : Calls Try.prog 11 #[.int .i64 n] w fun e w' => e = .returned (.int .i64 (wrap32 n)) ∧ w = w' := by
  go_enter Try.func11, Try.ntmps11
  go_wp2
  go_ret
  exact ⟨ret_int (wrap3264 n), rfl⟩

theorem turn_any (n m : Int) (w : World) (hm : 0 < m) (hm2 : m ≤ 8589934593) : Calls Try.prog 17 #[.int .i64 n, .int .i64 m] w fun e w' => e = .returned (.int .i64 ((n.tmod m + m).tmod m)) ∧ w = w' := by
  have hb := trn_bd n m hm
  have h0 : ¬ m = 0 := by omega
  go_enter Try.func17, Try.ntmps17
  go_wp2
  go_ret
  exact ⟨ret_int (Int.tmod_eq_emod_of_nonneg (by omega)).symm, rfl⟩

theorem neg_div (x s : Int) (hx : 0 ≤ x) : -(x.tdiv s) = x / (-s) := by
  rw [← Int.tdiv_neg, Int.tdiv_eq_ediv_of_nonneg hx]

theorem cnt_any (f t s : Int) (w : World) (hs : s ≠ 0) (hs1 : -1099511627776 ≤ s) (hs2 : s ≤ 1099511627776) (hf1 : -1099511627776 ≤ f) (hf2 : f ≤ 1099511627776) (ht1 : -1099511627776 ≤ t) (ht2 : t ≤ 1099511627776) :
    Calls Try.prog 9 #[.int .i64 f, .int .i64 t, .int .i64 s] w fun e w' => e = .returned (.int .i64 (cnt f t s)) ∧ w = w' := by
  rcases Int.lt_or_gt_of_ne hs with h | h
  · by_cases h2 : t < f
    · have b : 0 ≤ (f - t - s - 1) / (-s) := Int.ediv_nonneg (by omega) (by omega)
      have c := Int.ediv_le_self (a := f - t - s - 1) (-s) (by omega)
      have fin : wrap64 (-(f - t - s - 1).tdiv s) = cnt f t s := by
        rw [neg_div _ _ (by omega)]; rw [IntWalk.wrap64_in _ (by omega), cnt_down h h2]
      have FIN := Lib.hid fin; clear fin b c
      go_enter Try.func9, Try.ntmps9
      go_wp2
      go_ret
      exact ⟨ret_int FIN.out, rfl⟩
    · rw [cnt_down0 h h2]
      go_enter Try.func9, Try.ntmps9
      go_wp2
      go_ret
      exact ⟨rfl, rfl⟩
  · by_cases h2 : f < t
    · rw [cnt_up h h2]
      go_enter Try.func9, Try.ntmps9
      go_wp2
      go_ret
      exact ⟨rfl, rfl⟩
    · rw [cnt_up0 h h2]
      go_enter Try.func9, Try.ntmps9
      go_wp2
      go_ret
      exact ⟨rfl, rfl⟩

theorem rlen_any (f t s : Int) (w : World) (hs : s ≠ 0) (hs1 : -1099511627776 ≤ s) (hs2 : s ≤ 1099511627776) (hf1 : -1099511627776 ≤ f) (hf2 : f ≤ 1099511627776) (ht1 : -1099511627776 ≤ t) (ht2 : t ≤ 1099511627776) :
    Calls Try.prog 21 #[.int .i64 f, .int .i64 t, .int .i64 s] w fun e w' => e = .returned (.int .i64 (cnt f t s)) ∧ w = w' := by
  rcases Int.lt_or_gt_of_ne hs with h | h
  · by_cases h2 : t < f
    · have b : 0 ≤ (f - 1 - t) / (-s) := Int.ediv_nonneg (by omega) (by omega)
      have c := Int.ediv_le_self (a := f - 1 - t) (-s) (by omega)
      have fin : wrap64 (wrap64 (-(f - 1 - t).tdiv s) + 1) = cnt f t s := by
        rw [neg_div _ _ (by omega), IntWalk.wrap64_in ((f - 1 - t) / -s) (by omega), IntWalk.wrap64_in _ (by omega)]
        rw [cnt_down h h2, show f - t - s - 1 = (f - t) + (-s) - 1 from by omega, div_shift _ _ (by omega), show f - 1 - t = f - t - 1 from by omega]
      have FIN := Lib.hid fin; clear fin b c
      go_enter Try.func21, Try.ntmps21
      go_wp2
      go_ret
      exact ⟨ret_int FIN.out, rfl⟩
    · rw [cnt_down0 h h2]
      go_enter Try.func21, Try.ntmps21
      go_wp2
      go_ret
      exact ⟨rfl, rfl⟩
  · by_cases h2 : f < t
    · have e : cnt f t s = (t - 1 - f) / s + 1 := by
        rw [cnt_up h h2, div_shift _ _ (by omega), show t - 1 - f = t - f - 1 from by omega]
      have b : 0 ≤ (t - 1 - f) / s := Int.ediv_nonneg (by omega) (by omega)
      have c := Int.ediv_le_self (a := t - 1 - f) s (by omega)
      rw [e]; clear e
      go_enter Try.func21, Try.ntmps21
      go_wp2
      go_ret
      exact ⟨rfl, rfl⟩
    · rw [cnt_up0 h h2]
      go_enter Try.func21, Try.ntmps21
      go_wp2
      go_ret
      exact ⟨rfl, rfl⟩

/-- Ends: a slice's places as Sliceable asks for them -/
def EndsPost (n : Int) (w : World) (e : Ending) (w' : World) : Prop :=
  ∃ lo hi b : Int, e = .returned (.tuple #[.int .i64 lo, .int .i64 hi, .int .i64 b]) ∧ -1 ≤ lo ∧ lo ≤ n ∧ -1 ≤ hi ∧ hi ≤ n ∧ b ≠ 0 ∧ -4 ≤ b ∧ b ≤ 5 ∧ w = w'

theorem ends_any (n a b c : Int) (w : World) (hn : 0 ≤ n) (hn2 : n ≤ 4294967296) :
    Calls Try.prog 10 #[.int .i64 n, .int .i64 a, .int .i64 b, .int .i64 c] w (EndsPost n w) := by
  have hb := trn_bd c 9 (by omega)
  have hb2 := trn_bd a (n + 1) (by omega)
  go_enter Try.func10, Try.ntmps10
  go_wp2_with fail
  refine (turn_any _ _ _ (by omega) (by omega)).mono ?_
  rintro e w' ⟨rfl, rfl⟩
  generalize (c.tmod 9 + 9).tmod 9 = r at *
  by_cases hr : r - 4 ≥ 0
  · go_wp2_with fail
    refine (turn_any _ _ _ (by omega) (by omega)).mono ?_
    rintro e w' ⟨rfl, rfl⟩
    generalize (a.tmod (n + 1) + (n + 1)).tmod (n + 1) = r1 at *
    go_wp2_with fail
    have hb3 := trn_bd b (n - r1 + 1) (by omega)
    refine (turn_any _ _ _ (by omega) (by omega)).mono ?_
    rintro e w' ⟨rfl, rfl⟩
    generalize (b.tmod (n - r1 + 1) + (n - r1 + 1)).tmod (n - r1 + 1) = r2 at *
    go_wp2_with fail
    go_ret3
    exact ⟨_, _, _, rfl, by omega, by omega, by omega, by omega, by omega, by omega, by omega, rfl⟩
  · go_wp2_with fail
    refine (turn_any _ _ _ (by omega) (by omega)).mono ?_
    rintro e w' ⟨rfl, rfl⟩
    generalize (a.tmod (n + 1) + (n + 1)).tmod (n + 1) = r1 at *
    go_wp2_with fail
    have hb3 := trn_bd b (r1 - 1 + 2) (by omega)
    refine (turn_any _ _ _ (by omega) (by omega)).mono ?_
    rintro e w' ⟨rfl, rfl⟩
    generalize (b.tmod (r1 - 1 + 2) + (r1 - 1 + 2)).tmod (r1 - 1 + 2) = r2 at *
    go_wp2_with fail
    go_ret3
    exact ⟨_, _, _, rfl, by omega, by omega, by omega, by omega, by omega, by omega, by omega, rfl⟩

/-- ranged: three numbers of an int32, the last not 0 -/
def RangedPost (w : World) (e : Ending) (w' : World) : Prop :=
  ∃ s t p : Int, e = .returned (.tuple #[.int .i64 s, .int .i64 t, .int .i64 p]) ∧ -2147483648 ≤ s ∧ s ≤ 2147483647 ∧ -2147483648 ≤ t ∧ t ≤ 2147483647 ∧ -2147483648 ≤ p ∧ p ≤ 2147483647 ∧ p ≠ 0 ∧ w = w'

theorem ranged_any (a b c : Int) (w : World) : Calls Try.prog 8 #[.int .i64 a, .int .i64 b, .int .i64 c] w (RangedPost w) := by
  have ha := wrap32_bd a
  have hb := wrap32_bd b
  have hc := wrap32_bd c
  go_enter Try.func8, Try.ntmps8
  go_wp2_with fail
  refine (w32_any _ _).mono ?_
  rintro e w' ⟨rfl, rfl⟩
  go_wp2_with fail
  refine (w32_any _ _).mono ?_
  rintro e w' ⟨rfl, rfl⟩
  go_wp2_with fail
  refine (w32_any _ _).mono ?_
  rintro e w' ⟨rfl, rfl⟩
  generalize wrap32 a = a' at *
  generalize wrap32 b = b' at *
  generalize wrap32 c = c' at *
  by_cases h : c' = 0
  · subst h
    go_wp2_with fail
    go_ret3
    exact ⟨_, _, _, rfl, by omega, by omega, by omega, by omega, by omega, by omega, by omega, rfl⟩
  · go_wp2_with fail
    go_ret3
    exact ⟨_, _, _, rfl, by omega, by omega, by omega, by omega, by omega, by omega, by omega, rfl⟩

def SlicePost (s p lo hi b : Int) (w : World) (e : Ending) (w' : World) : Prop :=
  e = .returned (.iface 47 (.agg #[.int .i64 (s + p * lo), .int .i64 (s + p * hi), .int .i64 (p * b), .int .i64 (cnt lo hi b)])) ∧ Below w.heap.size w w'

theorem slice_any (s t p n lo hi b : Int) (w : World) (h1 : -2147483648 ≤ s) (h2 : s ≤ 2147483647) (h3 : -10737418240 ≤ p * lo) (h4 : p * lo ≤ 10737418240) (h5 : -10737418240 ≤ p * hi) (h6 : p * hi ≤ 10737418240)
    (hp : p ≠ 0) (hb : b ≠ 0) (h7 : -10737418240 ≤ p * b) (h8 : p * b ≤ 10737418240) :
    Calls Try.prog 22 #[.agg #[.int .i64 s, .int .i64 t, .int .i64 p, .int .i64 n], .int .i64 lo, .int .i64 hi, .int .i64 b] w (SlicePost s p lo hi b w) := by
  have hpb : p * b ≠ 0 := Int.mul_ne_zero hp hb
  have hsc := Lib.hid (cnt_scale s p lo hi b hp hb)
  go_enter Try.func22, Try.ntmps22
  go_wp2_with fail
  refine (rlen_any _ _ _ _ (by omega) (by omega) (by omega) (by omega) (by omega) (by omega) (by omega)).mono ?_
  rintro e w' ⟨rfl, rfl⟩
  rw [hsc.out]
  go_wp2_with fail
  go_returns
  exact ⟨rfl, by go_grown⟩

def Quad (s p lo hi b : Int) (w : World) (e : Ending) (w' : World) : Prop :=
  e = .returned (.tuple #[.int .i64 (s + p * lo), .int .i64 (s + p * hi), .int .i64 (p * b), .int .i64 (cnt lo hi b)]) ∧ Below w.heap.size w w'

theorem assert47 (v : Value) (w : World) : (Instr.typeAssert (.iface 47 v) 49 47 false).run Try.prog w = .ok v w := by kernel_rfl

theorem zz_any (s t p lo hi b : Int) (w : World) (h1 : -2147483648 ≤ s) (h2 : s ≤ 2147483647) (ht1 : -2147483648 ≤ t) (ht2 : t ≤ 2147483647) (hp1 : -2147483648 ≤ p) (hp2 : p ≤ 2147483647) (h3 : -10737418240 ≤ p * lo) (h4 : p * lo ≤ 10737418240) (h5 : -10737418240 ≤ p * hi) (h6 : p * hi ≤ 10737418240)
    (hp : p ≠ 0) (hb : b ≠ 0) (h7 : -10737418240 ≤ p * b) (h8 : p * b ≤ 10737418240) :
    Calls Try.prog 18 #[.int .i64 s, .int .i64 t, .int .i64 p, .int .i64 lo, .int .i64 hi, .int .i64 b] w (Quad s p lo hi b w) := by
  have hta := assert47
  go_enter Try.func18, Try.ntmps18
  go_wp2_with fail
  refine (rlen_any _ _ _ _ (by omega) (by omega) (by omega) (by omega) (by omega) (by omega) (by omega)).mono ?_
  rintro e w' ⟨rfl, rfl⟩
  go_wp2_with fail
  refine (slice_any s t p _ lo hi b _ h1 h2 h3 h4 h5 h6 hp hb h7 h8).mono ?_
  rintro e w1 ⟨rfl, hg⟩
  go_wp2_with fail
  go_quiet (fail)
  go_wp2_with fail
  refine bodyPost_ret (v := .tuple #[.int .i64 (s + p * lo), .int .i64 (s + p * hi), .int .i64 (p * b), .int .i64 (cnt lo hi b)]) (by simp [results, Try.results18, go_sem]) rfl ?_
  exact ⟨rfl, below_drewN (hg.alloc hg.size _) _⟩

theorem rs_any (s t p lo hi b : Int) (w : World) (h1 : -2147483648 ≤ s) (h2 : s ≤ 2147483647) (ht1 : -2147483648 ≤ t) (ht2 : t ≤ 2147483647) (hp1 : -2147483648 ≤ p) (hp2 : p ≤ 2147483647) (h3 : -10737418240 ≤ p * lo) (h4 : p * lo ≤ 10737418240) (h5 : -10737418240 ≤ p * hi) (h6 : p * hi ≤ 10737418240)
    (hp : p ≠ 0) (hb : b ≠ 0) (h7 : -10737418240 ≤ p * b) (h8 : p * b ≤ 10737418240) :
    Calls Try.prog 12 #[.int .i64 s, .int .i64 t, .int .i64 p, .int .i64 lo, .int .i64 hi, .int .i64 b] w (Quad s p lo hi b w) := by
  go_enter Try.func12, Try.ntmps12
  go_wp2_with fail
  refine (zz_any s t p lo hi b _ h1 h2 ht1 ht2 hp1 hp2 h3 h4 h5 h6 hp hb h7 h8).mono ?_
  rintro e w1 ⟨rfl, hg⟩
  go_wp2_with fail
  refine bodyPost_ret (v := .tuple #[.int .i64 (s + p * lo), .int .i64 (s + p * hi), .int .i64 (p * b), .int .i64 (cnt lo hi b)]) (by simp [results, Try.results12, go_sem]) rfl ?_
  exact ⟨rfl, hg⟩

theorem three_any (w : World) : Calls Try.prog 13 #[.int .i64 0, .int .i64 3, .int .i64 1] w fun e w' => e = .returned (.int .i64 3) ∧ w = w' := by
  go_enter Try.func13, Try.ntmps13
  go_wp2
  go_ret
  exact ⟨rfl, rfl⟩

theorem law_any (a b c d e f : Int) (w : World) : Calls Try.prog 5 #[.int .i64 a, .int .i64 b, .int .i64 c, .int .i64 d, .int .i64 e, .int .i64 f] w fun e w' => e = .returned (.bool true) ∧ Below w.heap.size w w' := by
  have hf := wrap32_bd f
  go_enter Try.func5, Try.ntmps5
  go_wp2_with fail
  refine (ranged_any _ _ _ _).mono ?_
  rintro x w' ⟨s, t, p, rfl, hs1, hs2, ht1, ht2, hp1, hp2, hp, rfl⟩
  go_wp2_with fail
  refine (cnt_any _ _ _ _ hp (by omega) (by omega) (by omega) (by omega) (by omega) (by omega)).mono ?_
  rintro x w' ⟨rfl, rfl⟩
  have hn := cnt_bd s t p hp hp1 hp2 hs1 hs2 ht1 ht2
  obtain ⟨hn0, hn1, hn2, hn3⟩ := hn
  generalize cnt s t p = n at *
  go_wp2_with fail
  refine (w32_any _ _).mono ?_
  rintro x w' ⟨rfl, rfl⟩
  go_wp2_with fail
  refine (ends_any _ _ _ _ _ hn0 hn1).mono ?_
  rintro x w' ⟨lo, hi, q, rfl, hlo1, hlo2, hhi1, hhi2, hq, hq1, hq2, rfl⟩
  have b1 := place_bd p n lo hp1 hp2 hn2 hn3 hlo1 hlo2
  have b2 := place_bd p n hi hp1 hp2 hn2 hn3 hhi1 hhi2
  have b3 : -10737418240 ≤ p * q ∧ p * q ≤ 10737418240 := by
    have : q = -4 ∨ q = -3 ∨ q = -2 ∨ q = -1 ∨ q = 1 ∨ q = 2 ∨ q = 3 ∨ q = 4 ∨ q = 5 := by omega
    rcases this with rfl | rfl | rfl | rfl | rfl | rfl | rfl | rfl | rfl <;> omega
  have hpq : p * q ≠ 0 := Int.mul_ne_zero hp hq
  have hsc := Lib.hid (cnt_scale s p lo hi q hp hq)
  have hmc := Int.mul_comm lo p
  go_wp2_with fail
  refine (rs_any s t p lo hi q _ hs1 hs2 ht1 ht2 hp1 hp2 b1.1 b1.2 b2.1 b2.2 hp hq b3.1 b3.2).mono ?_
  rintro x w1 ⟨rfl, hg⟩
  go_wp2_with fail
  refine (cnt_any _ _ _ _ hq (by omega) (by omega) (by omega) (by omega) (by omega) (by omega)).mono ?_
  rintro x w' ⟨rfl, rfl⟩
  go_wp2_with fail
  refine (cnt_any _ _ _ _ hpq (by omega) (by omega) (by omega) (by omega) (by omega) (by omega)).mono ?_
  rintro x w' ⟨rfl, rfl⟩
  rw [hsc.out]
  by_cases h0 : (cnt lo hi q == 0) = true
  · go_wp2_with fail
    refine (three_any _).mono ?_
    rintro x w' ⟨rfl, rfl⟩
    go_wp2_with fail
    go_ret
    exact ⟨rfl, hg⟩
  · have h0' : (cnt lo hi q == 0) = false := by simpa using h0
    clear h0
    go_wp2_with fail
    refine (three_any _).mono ?_
    rintro x w' ⟨rfl, rfl⟩
    go_wp2_with fail
    go_ret
    exact ⟨rfl, hg⟩
end Go.Proofs.Ythdhkpmfckfjmaa
