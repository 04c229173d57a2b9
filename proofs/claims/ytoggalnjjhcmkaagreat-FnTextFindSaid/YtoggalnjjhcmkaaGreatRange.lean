/- starlark.range_ and its door. -/
import Derived.Test.YtoggalnjjhcmkaaGreatUnpos
namespace Go.Proofs.YtoggalnjjhcmkaaGreat
open Go.RowKit Dig
set_option linter.unusedVariables false
set_option linter.unusedSimpArgs false
set_option maxRecDepth 100000

/-- how many numbers a range has -/
def cnt (a b c : Int) : Int := if 0 < c then (if a < b then (b - 1 - a) / c + 1 else 0) else if b < a then (a - 1 - b) / (-c) + 1 else 0
def R32 (a : Int) : Prop := -2147483648 ≤ a ∧ a ≤ 2147483647
theorem div_bd (x c : Int) (h0 : 0 ≤ x) (hc : 1 ≤ c) : 0 ≤ x / c ∧ x / c ≤ x := ⟨Int.ediv_nonneg h0 (by omega), Int.ediv_le_self _ h0⟩
theorem div_shift (x c : Int) (hc : 1 ≤ c) : (x + c) / c = x / c + 1 := by
  have := Int.add_mul_ediv_right x 1 (show c ≠ 0 by omega)
  rw [Int.one_mul] at this; exact this
set_option maxHeartbeats 800000 in
theorem rangeLen_any (a b c : Int) (w : World) (ha : R32 a) (hb : R32 b) (hc : R32 c) (h0 : c ≠ 0) :
    Calls Tryz.prog 96 #[.int .i64 a, .int .i64 b, .int .i64 c] w fun e w' => e = .returned (.int .i64 (cnt a b c)) ∧ w = w' := by
  obtain ⟨a1, a2⟩ := ha
  obtain ⟨b1, b2⟩ := hb
  obtain ⟨c1, c2⟩ := hc
  unfold cnt
  by_cases hp : 0 < c
  · rw [if_pos hp]
    by_cases hl : a < b
    · rw [if_pos hl]
      have hd := div_bd (b - 1 - a) c (by omega) (by omega)
      have q0 : (0 : Int) ≤ b - 1 - a := by omega
      have q1 : (1 : Int) ≤ c := by omega
      obtain ⟨d1, d2⟩ := hd
      clear h0
      go_enter Tryz.func96, Tryz.ntmps96
      go_wp2_with fail
      go_ret
      exact ⟨rfl, rfl⟩
    · rw [if_neg hl]
      clear h0
      go_enter Tryz.func96, Tryz.ntmps96
      go_wp2_with fail
      go_ret
      exact ⟨rfl, rfl⟩
  · rw [if_neg hp]
    obtain ⟨m, rfl⟩ : ∃ m, c = -m := ⟨-c, by omega⟩
    rw [Int.neg_neg]
    have hn : 0 < m := by omega
    clear hp
    by_cases hl : b < a
    · rw [if_pos hl]
      have hd := div_bd (a - 1 - b) m (by omega) (by omega)
      have q0 : (0 : Int) ≤ a - 1 - b := by omega
      have q1 : (1 : Int) ≤ m := by omega
      obtain ⟨d1, d2⟩ := hd
      clear h0
      go_enter Tryz.func96, Tryz.ntmps96
      go_wp2_with fail
      go_ret
      exact ⟨rfl, rfl⟩
    · rw [if_neg hl]
      clear h0
      go_enter Tryz.func96, Tryz.ntmps96
      go_wp2_with fail
      go_ret
      exact ⟨rfl, rfl⟩
set_option maxHeartbeats 800000 in
theorem count_any (a b c : Int) (w : World) (ha : R32 a) (hb : R32 b) (hc : R32 c) (h0 : c ≠ 0) :
    Calls Tryz.prog 13 #[.int .i64 a, .int .i64 b, .int .i64 c] w fun e w' => e = .returned (.int .i64 (cnt a b c)) ∧ w = w' := by
  obtain ⟨a1, a2⟩ := ha
  obtain ⟨b1, b2⟩ := hb
  obtain ⟨c1, c2⟩ := hc
  unfold cnt
  by_cases hp : 0 < c
  · rw [if_pos hp]
    by_cases hl : a < b
    · rw [if_pos hl]
      have q0 : (0 : Int) ≤ b - a + c - 1 := by omega
      have q1 : (1 : Int) ≤ c := by omega
      have HE : Hid ((b - a + c - 1) / c = (b - 1 - a) / c + 1) := Lib.hid (by rw [← div_shift _ _ q1]; congr 1; omega)
      clear h0
      go_enter Tryz.func13, Tryz.ntmps13
      go_wp2_with fail
      go_ret
      exact ⟨by rw [← HE.out]; rfl, rfl⟩
    · rw [if_neg hl]
      clear h0
      go_enter Tryz.func13, Tryz.ntmps13
      go_wp2_with fail
      go_ret
      exact ⟨rfl, rfl⟩
  · rw [if_neg hp]
    obtain ⟨m, rfl⟩ : ∃ m, c = -m := ⟨-c, by omega⟩
    rw [Int.neg_neg]
    have hn : 0 < m := by omega
    clear hp
    by_cases hl : b < a
    · rw [if_pos hl]
      have q0 : (0 : Int) ≤ a - b + m - 1 := by omega
      have q1 : (1 : Int) ≤ m := by omega
      have HE : Hid ((a - b + m - 1) / m = (a - 1 - b) / m + 1) := Lib.hid (by rw [← div_shift _ _ q1]; congr 1; omega)
      clear h0
      go_enter Tryz.func13, Tryz.ntmps13
      go_wp2_with fail
      go_ret
      exact ⟨by rw [← HE.out]; rfl, rfl⟩
    · rw [if_neg hl]
      clear h0
      go_enter Tryz.func13, Tryz.ntmps13
      go_wp2_with fail
      go_ret
      exact ⟨rfl, rfl⟩
theorem nameErr_any (a : Value) (b : Value) (w : World) : Calls Tryz.prog 95 #[a, b] w (ErrPost w) := by
  go_enter Tryz.func95, Tryz.ntmps95
  go_wp2_with (go_at_call 130; refine (errNew_any _ _).mono ?_; rintro e w1 ⟨q, rfl, hb⟩)
  go_ret
  exact ⟨_, rfl, hb⟩
end Go.Proofs.YtoggalnjjhcmkaaGreat
