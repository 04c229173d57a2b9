/- big.pow, big.maxPow: powers of a base in a word. -/
import Derived.Test.YtbfgjaammmpcdaaGreatDoorMNew
import Derived.Test.YtbfgjaammmpcdaaGreatDoorMIr
import Derived.Test.YtbfgjaammmpcdaaGreatDoorSpecOf
namespace Go.Proofs.YtbfgjaammmpcdaaGreatDoor
open Go.RowKit Dig
set_option linter.unusedVariables false
set_option linter.unusedSimpArgs false
set_option maxRecDepth 100000

theorem and1_i64 (n : Nat) (h : n < 128) : bits .and .i64 (n : Int) 1 = ((n % 2 : Nat) : Int) := by
  have h2 : ∀ n : Nat, n < 128 → bits .and .i64 (n : Int) 1 = ((n % 2 : Nat) : Int) := by decide +kernel
  exact h2 n h
theorem wrapM (a : Nat) : IntKind.u64.wrap (a : Int) = ((a % 18446744073709551616 : Nat) : Int) := by rw [IntKind.wrap_u64]; omega
set_option maxHeartbeats 800000 in
theorem pow_any (b n : Nat) (w : World) (hb : b < 18446744073709551616) (hn : n < 128) (hp : b ^ n < 18446744073709551616) :
    Calls Tryz.prog 133 #[.int .u64 (b : Int), .int .i64 (n : Int)] w fun e w' => e = .returned (.int .u64 ((b ^ n : Nat) : Int)) ∧ w = w' := by
  have START : Hid (1 * b ^ n % 18446744073709551616 = b ^ n) := Lib.hid (by rw [Nat.one_mul, Nat.mod_eq_of_lt hp])
  obtain ⟨P, hP⟩ : ∃ P, P = b ^ n := ⟨_, rfl⟩
  rw [← hP] at START ⊢
  have HPe := Lib.hid hP
  have HPl : Hid (P < 18446744073709551616) := Lib.hid (by rw [hP]; exact hp)
  clear hP hp
  go_enter Tryz.func133, Tryz.ntmps133
  go_wp2_with fail
  go_loopw [0, 1, 4] (fun x i p wr => ∃ x' n' p' : Nat, n' ≤ n ∧ x' < 18446744073709551616 ∧ p' < 18446744073709551616 ∧ x = .int .u64 (x' : Int) ∧ i = .int .i64 (n' : Int) ∧ p = .int .u64 (p' : Int) ∧ Hid (p' * x' ^ n' % 18446744073709551616 = P) ∧ wr = w) (fun _ i _ _ => (intOf i).toNat)
  case atStart => exact ⟨b, n, 1, Nat.le_refl _, hb, by omega, rfl, rfl, rfl, by rw [HPe.out]; rw [HPe.out] at START; exact START, rfl⟩
  case round =>
    obtain ⟨x', n', p', hnn, hx, hpp, rfl, rfl, rfl, HR, rfl⟩ := hrel
    clear START
    rcases Nat.eq_zero_or_pos n' with h0 | hpos
    · subst h0
      have F : Hid (p' = P) := Lib.hid (by have := HR.out; rw [Nat.pow_zero, Nat.mul_one, Nat.mod_eq_of_lt hpp] at this; exact this)
      go_wp2_with fail
      go_ret
      exact ⟨by rw [← F.out]; rfl, rfl⟩
    · have hand := and1_i64 n' (by omega)
      have hx2 : IntKind.u64.wrap ((x' : Int) * (x' : Int)) = ((x' * x' % 18446744073709551616 : Nat) : Int) := by rw [← Int.natCast_mul, wrapM]
      have hpx : IntKind.u64.wrap ((p' : Int) * (x' : Int)) = ((p' * x' % 18446744073709551616 : Nat) : Int) := by rw [← Int.natCast_mul, wrapM]
      have hxl : x' * x' % 18446744073709551616 < 18446744073709551616 := Nat.mod_lt _ (by omega)
      have hpl : p' * x' % 18446744073709551616 < 18446744073709551616 := Nat.mod_lt _ (by omega)
      rcases Nat.mod_two_eq_zero_or_one n' with hm | hm
      · have HN : Hid (p' * (x' * x' % 18446744073709551616) ^ (n' / 2) % 18446744073709551616 = P) := Lib.hid (by rw [← pow_even _ _ _ _ hm]; exact HR.out)
        rw [hm] at hand
        generalize x' * x' % 18446744073709551616 = x2 at *
        generalize p' * x' % 18446744073709551616 = p2 at *
        have hn2 : 0 < (n' : Int) := by omega
        go_wp2_with fail
        exact ⟨⟨x2, n' / 2, p', by omega, hxl, hpp, rfl, by congr 1, rfl, HN, trivial⟩, by simp [intOf]; omega⟩
      · have HN : Hid (p' * x' % 18446744073709551616 * (x' * x' % 18446744073709551616) ^ (n' / 2) % 18446744073709551616 = P) := Lib.hid (by rw [← pow_odd _ _ _ _ hm]; exact HR.out)
        rw [hm] at hand
        generalize x' * x' % 18446744073709551616 = x2 at *
        generalize p' * x' % 18446744073709551616 = p2 at *
        have hn2 : 0 < (n' : Int) := by omega
        go_wp2_with fail
        exact ⟨⟨x2, n' / 2, p2, by omega, hxl, hpl, rfl, by congr 1, rfl, HN, trivial⟩, by simp [intOf]; omega⟩
theorem maxPow_any (b : Nat) (w : World) (hb : 2 ≤ b) (hb2 : b ≤ 36) :
    Calls Tryz.prog 132 #[.int .u64 (b : Int)] w fun e w' => ∃ n : Nat, 1 ≤ n ∧ n ≤ 64 ∧ b ^ n < 18446744073709551616 ∧ e = .returned (.tuple #[.int .u64 ((b ^ n : Nat) : Int), .int .i64 (n : Int)]) ∧ w = w' := by
  obtain ⟨q, hq⟩ : ∃ q, q = 18446744073709551615 / b := ⟨_, rfl⟩
  have hq2 : (18446744073709551615 : Int) / (b : Int) = (q : Int) := by rw [hq, Int.natCast_ediv]; rfl
  have hqb : q * b ≤ 18446744073709551615 := by rw [hq]; exact Nat.div_mul_le_self _ _
  have hql : q ≤ 9223372036854775807 := by
    rw [hq]
    exact Nat.le_trans (Nat.div_le_div_left hb (by omega)) (by decide)
  have BIG : Hid (∀ n, b ^ n < 18446744073709551616 → n ≤ 64) := Lib.hid (fun n h => by
    rcases Nat.lt_or_ge 64 n with h1 | h1
    · exfalso
      have h2 : 2 ^ n ≤ b ^ n := Nat.pow_le_pow_left hb n
      have h3 : 2 ^ 65 ≤ 2 ^ n := Nat.pow_le_pow_right (by omega) h1
      have h4 : (2 : Nat) ^ 65 = 36893488147419103232 := by decide
      omega
    · exact h1)
  have HQB := Lib.hid hqb
  have hbn : ¬ (b : Int) = 0 := by omega
  clear hq hqb
  go_enter Tryz.func132, Tryz.ntmps132
  go_wp2_with fail
  go_loopw [2, 3] (fun p i wr => ∃ n : Nat, 1 ≤ n ∧ Hid (b ^ n < 18446744073709551616) ∧ p = .int .u64 ((b ^ n : Nat) : Int) ∧ i = .int .i64 (n : Int) ∧ wr = w) (fun _ i _ => 64 - (intOf i).toNat)
  case atStart => exact ⟨1, Nat.le_refl _, Lib.hid (by rw [Nat.pow_one]; omega), by rw [Nat.pow_one], rfl, rfl⟩
  case round =>
    obtain ⟨n, hn, HN, rfl, rfl, rfl⟩ := hrel
    have hn64 := BIG.out n HN.out
    obtain ⟨P, hP⟩ : ∃ P, P = b ^ n := ⟨_, rfl⟩
    have HPl := HN.out
    rw [← hP] at HPl ⊢
    have HP := Lib.hid hP
    rcases Nat.lt_or_ge q P with hgt | hle
    · clear hP
      go_wp2_with fail
      go_ret2
      exact ⟨n, hn, hn64, HN.out, by rw [← HP.out]; rfl, rfl⟩
    · have hm : P * b ≤ 18446744073709551615 := Nat.le_trans (Nat.mul_le_mul_right b hle) HQB.out
      have H2 : Hid (b ^ (n + 1) < 18446744073709551616) := Lib.hid (by rw [Nat.pow_succ, ← hP]; omega)
      have hn65 := BIG.out _ H2.out
      have hw : IntKind.u64.wrap ((P : Int) * (b : Int)) = ((b ^ (n + 1) : Nat) : Int) := by
        rw [← Int.natCast_mul, wrapM, Nat.mod_eq_of_lt (by omega), Nat.pow_succ, ← hP]
      obtain ⟨P2, hP2⟩ : ∃ P2, P2 = b ^ (n + 1) := ⟨_, rfl⟩
      rw [← hP2] at hw
      have HP2 := Lib.hid hP2
      clear hP hm hP2
      go_wp2_with fail
      first
        | exact ⟨⟨n + 1, by omega, H2, by rw [HP2.out], by congr 1, trivial⟩, by simp [intOf]; omega⟩
        | trace_state
end Go.Proofs.YtbfgjaammmpcdaaGreatDoor
