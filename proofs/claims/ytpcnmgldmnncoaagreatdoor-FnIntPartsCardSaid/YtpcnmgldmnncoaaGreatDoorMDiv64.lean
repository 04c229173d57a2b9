/- nlz, bits.LeadingZeros: how far a word is shifted up until its first bit is set. bitsDiv64, bitsDiv: two words by one whose first bit is set, or a word by a word. -/
import Derived.Test.YtpcnmgldmnncoaaGreatDoorMWhole
import Derived.Test.YtpcnmgldmnncoaaGreatDoorPow
import Derived.Test.YtpcnmgldmnncoaaGreatDoorMMath
import Derived.Laws.BitsAllLaws
import Derived.Deep.CutBlock
namespace Go.Proofs.YtpcnmgldmnncoaaGreatDoor
open Go.RowKit Dig
set_option linter.unusedVariables false
set_option linter.unusedSimpArgs false
set_option maxRecDepth 100000

theorem shift_of {x : Nat} (h0 : x ≠ 0) (h : x < 18446744073709551616) : ∃ s : Nat, s < 64 ∧ (64 : Int) - (Lib.bitLen x : Int) = (s : Int) ∧ 9223372036854775808 ≤ x * 2 ^ s ∧ x * 2 ^ s < 18446744073709551616 := by
  obtain ⟨h1, h2, _⟩ := bitLen_is x h
  have h2 := h2 h0
  generalize Lib.bitLen x = L at *
  have hL : L ≤ 64 := by
    rcases Nat.lt_or_ge 64 L with hl | hl
    · exfalso
      have : (2 : Nat) ^ 65 ≤ 2 ^ L := Nat.pow_le_pow_right (by omega) hl
      have e : (2 : Nat) ^ 65 = 36893488147419103232 := by decide
      omega
    · exact hl
  have hL0 : 0 < L := by
    rcases Nat.eq_zero_or_pos L with hl | hl
    · subst hl; simp at h1; omega
    · exact hl
  refine ⟨64 - L, by omega, by omega, ?_, ?_⟩
  · have e : 2 ^ L * 2 ^ (64 - L) = 18446744073709551616 := by rw [← Nat.pow_add, show L + (64 - L) = 64 by omega]
    have := Nat.mul_le_mul_right (2 ^ (64 - L)) h2
    rw [e, Nat.mul_assoc] at this
    omega
  · have e : 2 ^ L * 2 ^ (64 - L) = 18446744073709551616 := by rw [← Nat.pow_add, show L + (64 - L) = 64 by omega]
    have := Nat.mul_lt_mul_of_pos_right h1 (Nat.pow_pos (n := 64 - L) (show 0 < 2 by omega))
    rw [e] at this
    exact this
theorem lz_any (x : Nat) (w : World) (h : x < 18446744073709551616) : Calls Tryz.prog 102 #[.int .u64 (x : Int)] w fun e w' => e = .returned (.int .i64 (64 - (Lib.bitLen x : Int))) ∧ w' = w := by
  have C := Lib.hid (bits_Len (x : Int) w (by omega) (by omega))
  have hl := (bitLen_is x h)
  have hL : Lib.bitLen x ≤ 64 := by
    rcases Nat.lt_or_ge 64 (Lib.bitLen x) with hl2 | hl2
    · exfalso
      have h0 : x ≠ 0 := fun e => by have := hl.2.2 e; omega
      have h2 := hl.2.1 h0
      have : (2 : Nat) ^ 65 ≤ 2 ^ Lib.bitLen x := Nat.pow_le_pow_right (by omega) hl2
      have e : (2 : Nat) ^ 65 = 36893488147419103232 := by decide
      omega
    · exact hl2
  rw [Int.toNat_natCast] at C
  clear hl
  generalize Lib.bitLen x = L at *
  go_enter Tryz.func102, Tryz.ntmps102
  go_wp2_with fail
  with_reducible refine C.out.mono ?_
  rintro e w' ⟨rfl, rfl⟩
  go_wp2_with fail
  go_ret
  exact ⟨rfl, rfl⟩
theorem lz64_any (x : Nat) (w : World) (h : x < 18446744073709551616) : Calls Tryz.prog 124 #[.int .u64 (x : Int)] w fun e w' => e = .returned (.int .i64 (64 - (Lib.bitLen x : Int))) ∧ w' = w := by
  have C := Lib.hid (bits_Len64 (x : Int) w (by omega) (by omega))
  have hl := (bitLen_is x h)
  have hL : Lib.bitLen x ≤ 64 := by
    rcases Nat.lt_or_ge 64 (Lib.bitLen x) with hl2 | hl2
    · exfalso
      have h0 : x ≠ 0 := fun e => by have := hl.2.2 e; omega
      have h2 := hl.2.1 h0
      have : (2 : Nat) ^ 65 ≤ 2 ^ Lib.bitLen x := Nat.pow_le_pow_right (by omega) hl2
      have e : (2 : Nat) ^ 65 = 36893488147419103232 := by decide
      omega
    · exact hl2
  rw [Int.toNat_natCast] at C
  clear hl
  generalize Lib.bitLen x = L at *
  go_enter Tryz.func124, Tryz.ntmps124
  go_wp2_with fail
  with_reducible refine C.out.mono ?_
  rintro e w' ⟨rfl, rfl⟩
  go_wp2_with fail
  go_ret
  exact ⟨rfl, rfl⟩
/-- how far a word is shifted up -/
def nz (x : Nat) : Nat := 64 - Lib.bitLen x
theorem nz_spec {x : Nat} (h0 : x ≠ 0) (h : x < 18446744073709551616) : nz x < 64 ∧ 9223372036854775808 ≤ x * 2 ^ nz x ∧ x * 2 ^ nz x < 18446744073709551616 ∧ (64 : Int) - (Lib.bitLen x : Int) = (nz x : Int) := by
  obtain ⟨s, hs, hsl, h1, h2⟩ := shift_of h0 h
  have e : nz x = s := by unfold nz; omega
  rw [e]
  exact ⟨hs, h1, h2, hsl⟩
theorem nlz_any (x : Nat) (w : World) (h0 : x ≠ 0) (h : x < 18446744073709551616) : Calls Tryz.prog 78 #[.int .u64 (x : Int)] w fun e w' => e = .returned (.int .u64 (nz x : Int)) ∧ w' = w := by
  obtain ⟨hs, _, _, hsl⟩ := nz_spec h0 h
  have C := Lib.hid (lz_any x w h)
  rw [hsl] at C
  clear hsl
  generalize nz x = s at *
  go_enter Tryz.func78, Tryz.ntmps78
  go_wp2_with fail
  with_reducible refine C.out.mono ?_
  rintro e w' ⟨rfl, rfl⟩
  go_wp2_with fail
  go_ret
  exact ⟨rfl, rfl⟩
/-- a word whose first bit is set is shifted not at all -/
theorem top_shift {x : Nat} (ht : 9223372036854775808 ≤ x) (h : x < 18446744073709551616) : (64 : Int) - (Lib.bitLen x : Int) = 0 := by
  obtain ⟨s, hs, hsl, h1, h2⟩ := shift_of (by omega) h
  have : s = 0 := by
    rcases Nat.eq_zero_or_pos s with h0 | h0
    · exact h0
    · exfalso
      have : (2 : Nat) ^ 1 ≤ 2 ^ s := Nat.pow_le_pow_right (by omega) h0
      have h3 := Nat.mul_le_mul_left x this
      omega
  rw [hsl, this]; rfl
end Go.Proofs.YtpcnmgldmnncoaaGreatDoor

namespace Go.Proofs.YtpcnmgldmnncoaaGreatDoor
open Go.RowKit Dig
set_option linter.unusedVariables false
set_option linter.unusedSimpArgs false
set_option maxRecDepth 100000

theorem andM (x : Nat) (h : x < 18446744073709551616) : bits .and .u64 (x : Int) 4294967295 = ((x % 4294967296 : Nat) : Int) := by
  have e : x &&& 4294967295 = x % 4294967296 := Nat.and_two_pow_sub_one_eq_mod x 32
  rw [← e]
  exact u64_and_nat x 4294967295 h (by omega)
theorem orZ (x lo : Nat) (hx : x < 18446744073709551616) (hl : lo < 18446744073709551616) : bits .or .u64 (x : Int) ((lo : Int) / 18446744073709551616) = (x : Int) := by
  have e : (lo : Int) / 18446744073709551616 = ((0 : Nat) : Int) := by omega
  rw [e, u64_or_nat x 0 hx (by omega), Nat.or_zero]
theorem wrapD (a b : Nat) (h : a < 18446744073709551616) : IntKind.u64.wrap ((a : Int) / (b : Int)) = ((a / b : Nat) : Int) := by
  rw [← Int.natCast_ediv, wrapM, Nat.mod_eq_of_lt (Nat.lt_of_le_of_lt (Nat.div_le_self _ _) h)]
theorem wrapMul (a b p : Nat) (hp : a * b = p) (h : p < 18446744073709551616) : IntKind.u64.wrap ((a : Int) * (b : Int)) = (p : Int) := by
  rw [← Int.natCast_mul, wrapM, hp, Nat.mod_eq_of_lt h]

set_option maxHeartbeats 3200000 in
theorem div64_top (hi lo y : Nat) (w : World) (hy1 : 9223372036854775808 ≤ y) (hy2 : y < 18446744073709551616) (hh0 : 0 < hi) (hh : hi < y) (hl : lo < 18446744073709551616) :
    Calls Tryz.prog 118 #[.int .u64 (hi : Int), .int .u64 (lo : Int), .int .u64 (y : Int)] w fun e w' => e = .returned (.tuple #[.int .u64 (((hi * 18446744073709551616 + lo) / y : Nat) : Int), .int .u64 (((hi * 18446744073709551616 + lo) % y : Nat) : Int)]) ∧ w' = w := by
  have C := Lib.hid (lz64_any y w hy2)
  rw [top_shift hy1 hy2] at C
  have e0 : ((y : Int) == 0) = false := by rw [beq_eq_false_iff_ne]; omega
  have e1 : ¬ (y : Int) ≤ (hi : Int) := by omega
  have e2 : ((hi : Int) == 0) = false := by rw [beq_eq_false_iff_ne]; omega
  obtain ⟨y1, hy1e⟩ : ∃ y1, y1 = y / 4294967296 := ⟨_, rfl⟩
  obtain ⟨y0, hy0e⟩ : ∃ y0, y0 = y % 4294967296 := ⟨_, rfl⟩
  obtain ⟨l1, hl1e⟩ : ∃ l1, l1 = lo / 4294967296 := ⟨_, rfl⟩
  obtain ⟨l0, hl0e⟩ : ∃ l0, l0 = lo % 4294967296 := ⟨_, rfl⟩
  have hye : y1 * 4294967296 + y0 = y := by rw [hy1e, hy0e]; exact Nat.div_add_mod' y _
  have hle : l1 * 4294967296 + l0 = lo := by rw [hl1e, hl0e]; exact Nat.div_add_mod' lo _
  have by1 : 2147483648 ≤ y1 ∧ y1 < 4294967296 := by omega
  have by0 : y0 < 4294967296 := by omega
  have bl1 : l1 < 4294967296 := by omega
  have bl0 : l0 < 4294967296 := by omega
  have a1 : bits .and .u64 (y : Int) 4294967295 = (y0 : Int) := by rw [hy0e]; exact andM y hy2
  have a2 : bits .and .u64 (lo : Int) 4294967295 = (l0 : Int) := by rw [hl0e]; exact andM lo hl
  have a3 : bits .or .u64 (hi : Int) ((lo : Int) / 18446744073709551616) = (hi : Int) := orZ hi lo (by omega) hl
  have a4 : (y : Int) / 4294967296 = (y1 : Int) := by omega
  have a5 : (lo : Int) / 4294967296 = (l1 : Int) := by omega
  have a6 := wrapD hi y1 (by omega)
  have g0 : Gs 4294967296 y1 y0 hi l1 (hi / y1) (hi % y1) := Gs.start (by omega) by0 bl1
  have hr0 : hi % y1 < y1 := Nat.mod_lt _ (by omega)
  have hq0 : hi / y1 < 1099511627776 := by
    rw [Nat.div_lt_iff_lt_mul (by omega)]
    have h9 := Nat.mul_le_mul_left 1099511627776 by1.1
    generalize hK : 1099511627776 * y1 = K at *
    omega
  have a7 := wrapMul (hi / y1) y1 (hi - hi % y1) (by have := Nat.div_add_mod hi y1; rw [Nat.mul_comm] at this; omega) (by omega)
  have a8 : IntKind.u64.wrap ((hi : Int) - ((hi - hi % y1 : Nat) : Int)) = ((hi % y1 : Nat) : Int) := by
    have := Nat.mod_le hi y1
    have e : (hi : Int) - ((hi - hi % y1 : Nat) : Int) = ((hi % y1 : Nat) : Int) := by omega
    rw [e, wrapM, Nat.mod_eq_of_lt (by omega)]
  have hney : ((y1 : Int) == 0) = false := by rw [beq_eq_false_iff_ne]; omega
  have eTW : (hi * 4294967296 + l1) * 4294967296 + l0 = hi * 18446744073709551616 + lo := by
    rw [Nat.add_mul, Nat.mul_assoc, Nat.add_assoc, hle]
  obtain ⟨hT1, hT2⟩ := two_digits 4294967296 y hi l1 l0 (by omega)
  rw [eTW] at hT1 hT2
  rw [hT1, hT2]
  have HYE := Lib.hid hye
  have HLE := Lib.hid hle
  clear eTW hT1 hT2
  obtain ⟨Q1, hQ1⟩ : ∃ Q1, Q1 = (hi * 4294967296 + l1) / y := ⟨_, rfl⟩
  obtain ⟨R1, hR1⟩ : ∃ R1, R1 = (hi * 4294967296 + l1) % y := ⟨_, rfl⟩
  obtain ⟨Q0, hQ0⟩ : ∃ Q0, Q0 = (R1 * 4294967296 + l0) / y := ⟨_, rfl⟩
  obtain ⟨R0, hR0⟩ : ∃ R0, R0 = (R1 * 4294967296 + l0) % y := ⟨_, rfl⟩
  rw [← hQ1, ← hR1, ← hQ0, ← hR0]
  have hQR : y * Q1 + R1 = hi * 4294967296 + l1 := by rw [hQ1, hR1]; exact Nat.div_add_mod _ _
  have hQR0 : y * Q0 + R0 = R1 * 4294967296 + l0 := by rw [hQ0, hR0]; exact Nat.div_add_mod _ _
  have hRy : R1 < y := by rw [hR1]; exact Nat.mod_lt _ (by omega)
  have hRy0 : R0 < y := by rw [hR0]; exact Nat.mod_lt _ (by omega)
  have hQB : Q1 < 4294967296 := by
    have h9 := Gs.digit (b := 4294967296) (y1 := y1) (y0 := y0) (u2 := hi) (u1 := l1) (by omega) (by omega) (by rw [hye]; exact hh) bl1
    rw [hye, ← hQ1] at h9
    exact h9
  have hQB0 : Q0 < 4294967296 := by
    have h9 := Gs.digit (b := 4294967296) (y1 := y1) (y0 := y0) (u2 := R1) (u1 := l0) (by omega) (by omega) (by rw [hye]; exact hRy) bl0
    rw [hye, ← hQ0] at h9
    exact h9
  have HQR := Lib.hid hQR
  have HQR0 := Lib.hid hQR0
  have HQ1 := Lib.hid hQ1
  have HQ0 := Lib.hid hQ0
  clear hQR hQR0 hQ1 hQ0 hR1 hR0
  clear hy1e hy0e hl1e hl0e hye hle
  generalize hi / y1 = q0 at *
  generalize hi - hi % y1 = p0 at *
  generalize hi % y1 = r0 at *
  have G0 := Lib.hid g0
  clear g0
  go_enter Tryz.func118, Tryz.ntmps118
  go_wp2_with fail
  with_reducible refine C.out.mono ?_
  rintro e w1 ⟨rfl, rfl⟩
  clear C
  go_upto_block 0 with fail
  go_cut [15, 16] from 67 to 85 (fun u v wx => ∃ r : Nat, u = .int .u64 (Q1 : Int) ∧ v = .int .u64 (r : Int) ∧ wx = w1)
  case first =>
    go_wp2_with fail
    go_loopw [15, 16] (fun u v W => ∃ q r : Nat, u = .int .u64 (q : Int) ∧ v = .int .u64 (r : Int) ∧ r < 4294967296 ∧ q < 1099511627776 ∧ Gs 4294967296 y1 y0 hi l1 q r ∧ W = w1) (fun u _ _ => (intOf u).toNat)
    case atStart => exact ⟨q0, r0, rfl, rfl, by omega, hq0, G0.out, rfl⟩
    obtain ⟨q, r, rfl, rfl, hr, hq, hg, rfl⟩ := hrel
    have HG := Lib.hid hg
    clear hg G0 a6 a7 a8
    by_cases hc1 : 4294967296 ≤ q
    · have hI : (4294967296 : Int) ≤ (q : Int) := by omega
      obtain ⟨hq1, hg2⟩ := HG.out.next (by omega) (by omega) (by have := HYE.out; omega) bl1 (.inl hc1)
      have HG2 := Lib.hid hg2
      clear hg2 HG
      by_cases hb : 4294967296 ≤ r + y1
      · have hbI : (4294967296 : Int) ≤ (r : Int) + (y1 : Int) := by omega
        have HD := Lib.hid (HG2.out.big (by omega) (by omega) by0 (by have := HYE.out; omega) hb)
        have e : ((q - 1 : Nat) : Int) = (q : Int) - 1 := by omega
        go_wp2_with fail
        go_meet
        refine ⟨r + y1, ?_, by push_cast; rfl, rfl⟩
        rw [HYE.out, ← HQ1.out] at HD
        rw [← HD.out, e]
      · have hbI : ¬ (4294967296 : Int) ≤ (r : Int) + (y1 : Int) := by omega
        go_wp2_with fail
        go_roundw
        case rel => exact ⟨q - 1, r + y1, by go_num, by push_cast; rfl, by omega, by omega, HG2.out, trivial⟩
        case measure => simp [intOf]; omega
    · have hI : ¬ (4294967296 : Int) ≤ (q : Int) := by omega
      have hqy : q * y0 < 18446744073709551616 := by
        have h9 : q * y0 ≤ 4294967295 * 4294967295 := Nat.mul_le_mul (by omega) (by omega)
        omega
      have b1 := wrapMul q y0 (q * y0) rfl hqy
      obtain ⟨P, hP⟩ : ∃ P, P = q * y0 := ⟨_, rfl⟩
      rw [← hP] at b1 hqy
      have HP := Lib.hid hP
      clear hP
      have hr2 : (r : Int) < 4294967296 := by omega
      by_cases hc2 : 4294967296 * r + l1 < P
      · have hc2I : 4294967296 * (r : Int) + (l1 : Int) < (P : Int) := by omega
        obtain ⟨hq1, hg2⟩ := HG.out.next (by omega) (by omega) (by have := HYE.out; omega) bl1 (.inr (by rw [← HP.out]; exact hc2))
        have HG2 := Lib.hid hg2
        clear hg2 HG
        by_cases hb : 4294967296 ≤ r + y1
        · have hbI : (4294967296 : Int) ≤ (r : Int) + (y1 : Int) := by omega
          have HD := Lib.hid (HG2.out.big (by omega) (by omega) by0 (by have := HYE.out; omega) hb)
          have e : ((q - 1 : Nat) : Int) = (q : Int) - 1 := by omega
          go_wp2_with fail
          go_meet
          refine ⟨r + y1, ?_, by push_cast; rfl, rfl⟩
          rw [HYE.out, ← HQ1.out] at HD
          rw [← HD.out, e]
        · have hbI : ¬ (4294967296 : Int) ≤ (r : Int) + (y1 : Int) := by omega
          go_wp2_with fail
          go_roundw
          case rel => exact ⟨q - 1, r + y1, by go_num, by push_cast; rfl, by omega, by omega, HG2.out, trivial⟩
          case measure => simp [intOf]; omega
      · have hc2I : ¬ 4294967296 * (r : Int) + (l1 : Int) < (P : Int) := by omega
        have HD := Lib.hid (HG.out.done (by omega) (by omega) (by rw [← HP.out]; omega))
        go_wp2_with fail
        go_meet
        refine ⟨r, ?_, rfl, rfl⟩
        rw [HYE.out, ← HQ1.out] at HD
        rw [← HD.out]
  case rest =>
  obtain ⟨r, rfl, rfl, rfl⟩ := hcut
  clear G0 a6 a7 a8
  obtain ⟨P1, hP1⟩ : ∃ P1, P1 = y * Q1 := ⟨_, rfl⟩
  have HP1 : Hid (P1 + R1 = hi * 4294967296 + l1) := Lib.hid (by rw [hP1]; exact HQR.out)
  have b1 : IntKind.u64.wrap ((Q1 : Int) * (y : Int)) = ((P1 % 18446744073709551616 : Nat) : Int) := by
    rw [← Int.natCast_mul, wrapM, Nat.mul_comm, ← hP1]
  have b2 : IntKind.u64.wrap (IntKind.u64.wrap (IntKind.u64.wrap ((hi : Int) * 4294967296) + (l1 : Int)) - (P1 : Int) % 18446744073709551616) = (R1 : Int) := by
    have := HP1.out
    simp only [IntKind.wrap_u64]
    omega
  clear hP1
  have g0 : Gs 4294967296 y1 y0 R1 l0 (R1 / y1) (R1 % y1) := Gs.start (by omega) by0 bl0
  have hr0' : R1 % y1 < y1 := Nat.mod_lt _ (by omega)
  have hq0' : R1 / y1 < 1099511627776 := by
    rw [Nat.div_lt_iff_lt_mul (by omega)]
    have h9 := Nat.mul_le_mul_left 1099511627776 by1.1
    generalize hK : 1099511627776 * y1 = K at *
    omega
  have a6 := wrapD R1 y1 (by omega)
  have a7 := wrapMul (R1 / y1) y1 (R1 - R1 % y1) (by have := Nat.div_add_mod R1 y1; rw [Nat.mul_comm] at this; omega) (by omega)
  have a8 : IntKind.u64.wrap ((R1 : Int) - ((R1 - R1 % y1 : Nat) : Int)) = ((R1 % y1 : Nat) : Int) := by
    have := Nat.mod_le R1 y1
    have e : (R1 : Int) - ((R1 - R1 % y1 : Nat) : Int) = ((R1 % y1 : Nat) : Int) := by omega
    rw [e, wrapM, Nat.mod_eq_of_lt (by omega)]
  generalize R1 / y1 = q2 at *
  generalize R1 - R1 % y1 = p2 at *
  generalize R1 % y1 = r2 at *
  have G0 := Lib.hid g0
  clear g0
  go_upto_block 2 with fail
  go_cut [16, 18] from 102 to 120 (fun v u wx => ∃ r : Nat, v = .int .u64 (r : Int) ∧ u = .int .u64 (Q0 : Int) ∧ wx = wc)
  case first =>
    go_wp2_with fail
    go_loopw [16, 18] (fun v u W => ∃ q r : Nat, v = .int .u64 (r : Int) ∧ u = .int .u64 (q : Int) ∧ r < 4294967296 ∧ q < 1099511627776 ∧ Gs 4294967296 y1 y0 R1 l0 q r ∧ W = wc) (fun _ u _ => (intOf u).toNat)
    case atStart => exact ⟨q2, r2, rfl, rfl, by omega, hq0', G0.out, rfl⟩
    obtain ⟨q, r, rfl, rfl, hr, hq, hg, rfl⟩ := hrel
    have HG := Lib.hid hg
    clear hg G0 a6 a7 a8
    by_cases hc1 : 4294967296 ≤ q
    · have hI : (4294967296 : Int) ≤ (q : Int) := by omega
      obtain ⟨hq1, hg2⟩ := HG.out.next (by omega) (by omega) (by have := HYE.out; omega) bl0 (.inl hc1)
      have HG2 := Lib.hid hg2
      clear hg2 HG
      by_cases hb : 4294967296 ≤ r + y1
      · have hbI : (4294967296 : Int) ≤ (r : Int) + (y1 : Int) := by omega
        have HD := Lib.hid (HG2.out.big (by omega) (by omega) by0 (by have := HYE.out; omega) hb)
        have e : ((q - 1 : Nat) : Int) = (q : Int) - 1 := by omega
        go_wp2_with fail
        go_meet
        refine ⟨r + y1, by push_cast; rfl, ?_, rfl⟩
        rw [HYE.out, ← HQ0.out] at HD
        rw [← HD.out, e]
      · have hbI : ¬ (4294967296 : Int) ≤ (r : Int) + (y1 : Int) := by omega
        go_wp2_with fail
        go_roundw
        case rel => exact ⟨q - 1, r + y1, by push_cast; rfl, by go_num, by omega, by omega, HG2.out, trivial⟩
        case measure => simp [intOf]; omega
    · have hI : ¬ (4294967296 : Int) ≤ (q : Int) := by omega
      have hqy : q * y0 < 18446744073709551616 := by
        have h9 : q * y0 ≤ 4294967295 * 4294967295 := Nat.mul_le_mul (by omega) (by omega)
        omega
      have b1 := wrapMul q y0 (q * y0) rfl hqy
      obtain ⟨P, hP⟩ : ∃ P, P = q * y0 := ⟨_, rfl⟩
      rw [← hP] at b1 hqy
      have HP := Lib.hid hP
      clear hP
      have hr2 : (r : Int) < 4294967296 := by omega
      by_cases hc2 : 4294967296 * r + l0 < P
      · have hc2I : 4294967296 * (r : Int) + (l0 : Int) < (P : Int) := by omega
        obtain ⟨hq1, hg2⟩ := HG.out.next (by omega) (by omega) (by have := HYE.out; omega) bl0 (.inr (by rw [← HP.out]; exact hc2))
        have HG2 := Lib.hid hg2
        clear hg2 HG
        by_cases hb : 4294967296 ≤ r + y1
        · have hbI : (4294967296 : Int) ≤ (r : Int) + (y1 : Int) := by omega
          have HD := Lib.hid (HG2.out.big (by omega) (by omega) by0 (by have := HYE.out; omega) hb)
          have e : ((q - 1 : Nat) : Int) = (q : Int) - 1 := by omega
          go_wp2_with fail
          go_meet
          refine ⟨r + y1, by push_cast; rfl, ?_, rfl⟩
          rw [HYE.out, ← HQ0.out] at HD
          rw [← HD.out, e]
        · have hbI : ¬ (4294967296 : Int) ≤ (r : Int) + (y1 : Int) := by omega
          go_wp2_with fail
          go_roundw
          case rel => exact ⟨q - 1, r + y1, by push_cast; rfl, by go_num, by omega, by omega, HG2.out, trivial⟩
          case measure => simp [intOf]; omega
      · have hc2I : ¬ 4294967296 * (r : Int) + (l0 : Int) < (P : Int) := by omega
        have HD := Lib.hid (HG.out.done (by omega) (by omega) (by rw [← HP.out]; omega))
        go_wp2_with fail
        go_meet
        refine ⟨r, rfl, ?_, rfl⟩
        rw [HYE.out, ← HQ0.out] at HD
        rw [← HD.out]
  case rest =>
  obtain ⟨r, rfl, rfl, rfl⟩ := hcut
  clear G0 a6 a7 a8 b1 b2
  obtain ⟨P0, hP0⟩ : ∃ P0, P0 = y * Q0 := ⟨_, rfl⟩
  have HP0 : Hid (P0 + R0 = R1 * 4294967296 + l0) := Lib.hid (by rw [hP0]; exact HQR0.out)
  have b1 : IntKind.u64.wrap ((Q0 : Int) * (y : Int)) = ((P0 % 18446744073709551616 : Nat) : Int) := by
    rw [← Int.natCast_mul, wrapM, Nat.mul_comm, ← hP0]
  have b2 : IntKind.u64.wrap (IntKind.u64.wrap (IntKind.u64.wrap ((R1 : Int) * 4294967296) + (l0 : Int)) - (P0 : Int) % 18446744073709551616) = (R0 : Int) := by
    have := HP0.out
    simp only [IntKind.wrap_u64]
    omega
  clear hP0
  have e6 : ((Q1 * 4294967296 + Q0 : Nat) : Int) = (Q1 : Int) * 4294967296 + (Q0 : Int) := by omega
  go_wp2_with fail
  go_ret2
  rw [e6]
  exact ⟨rfl, rfl⟩
set_option maxHeartbeats 1600000 in
theorem div64_zero (lo y : Nat) (w : World) (hy0 : 0 < y) (hy2 : y < 18446744073709551616) (hl : lo < 18446744073709551616) :
    Calls Tryz.prog 118 #[.int .u64 0, .int .u64 (lo : Int), .int .u64 (y : Int)] w fun e w' => e = .returned (.tuple #[.int .u64 ((lo / y : Nat) : Int), .int .u64 ((lo % y : Nat) : Int)]) ∧ ∃ k, w' = w.drewN k := by
  have e0 : ((y : Int) == 0) = false := by rw [beq_eq_false_iff_ne]; omega
  have e1 : ¬ (y : Int) ≤ 0 := by omega
  have a1 := wrapD lo y hl
  have e2 : (lo : Int) % (y : Int) = ((lo % y : Nat) : Int) := by push_cast; rfl
  go_enter Tryz.func118, Tryz.ntmps118
  go_wp2_with fail
  go_quiet (fail)
  go_wp2_with fail
  go_ret2
  trace_state
  exact ⟨rfl, _, rfl⟩
end Go.Proofs.YtpcnmgldmnncoaaGreatDoor
