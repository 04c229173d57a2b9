/- bitsDiv, reciprocalWord, divWW: two words by one, through the divisor's reciprocal. divWVW: a row of words by one word, from the top down. -/
import Derived.Test.YtpcnmgldmnncoaaGreatDoorMDiv64
import Derived.Test.YtpcnmgldmnncoaaGreatDoorMMath
import Derived.Test.YtpcnmgldmnncoaaGreatDoorMMul
import Derived.Deep.CutBlock
namespace Go.Proofs.YtpcnmgldmnncoaaGreatDoor
open Go.RowKit Dig
set_option linter.unusedVariables false
set_option linter.unusedSimpArgs false
set_option maxRecDepth 100000

theorem bitsDiv_any (hi lo y : Nat) (w : World) (hy0 : 0 < y) (hy2 : y < 18446744073709551616) (hh : hi < y) (hl : lo < 18446744073709551616) (hy : hi = 0 ∨ 9223372036854775808 ≤ y) :
    Calls Tryz.prog 97 #[.int .u64 (hi : Int), .int .u64 (lo : Int), .int .u64 (y : Int)] w fun e w' => e = .returned (.tuple #[.int .u64 (((hi * 18446744073709551616 + lo) / y : Nat) : Int), .int .u64 (((hi * 18446744073709551616 + lo) % y : Nat) : Int)]) ∧ ∃ k, w' = w.drewN k := by
  have C : Hid (Calls Tryz.prog 118 #[.int .u64 (hi : Int), .int .u64 (lo : Int), .int .u64 (y : Int)] w fun e w' => e = .returned (.tuple #[.int .u64 (((hi * 18446744073709551616 + lo) / y : Nat) : Int), .int .u64 (((hi * 18446744073709551616 + lo) % y : Nat) : Int)]) ∧ ∃ k, w' = w.drewN k) := Lib.hid (by
    by_cases h0 : hi = 0
    · subst h0
      have := div64_zero lo y w hy0 hy2 hl
      simpa using this
    · refine (div64_top hi lo y w (by omega) hy2 (by omega) hh hl).mono ?_
      rintro e w' ⟨rfl, rfl⟩
      exact ⟨rfl, 0, rfl⟩)
  generalize (hi * 18446744073709551616 + lo) / y = Q at *
  generalize (hi * 18446744073709551616 + lo) % y = R at *
  clear hy0 hy2 hh hl hy
  go_enter Tryz.func97, Tryz.ntmps97
  go_wp2_with fail
  with_reducible refine C.out.mono ?_
  rintro e w' ⟨rfl, k, rfl⟩
  go_wp2_with fail
  go_ret2
  exact ⟨rfl, k, rfl⟩
/-- a word's reciprocal -/
def rcp (u : Nat) : Nat := ((18446744073709551615 - u) * 18446744073709551616 + 18446744073709551615) / u
theorem rcp_spec {u : Nat} (h1 : 9223372036854775808 ≤ u) (h2 : u < 18446744073709551616) : rcp u < 18446744073709551616 ∧ u * (rcp u + 18446744073709551616) < 18446744073709551616 * 18446744073709551616 ∧ 18446744073709551616 * 18446744073709551616 ≤ u * (rcp u + 18446744073709551616 + 1) := by
  have e := Nat.div_add_mod ((18446744073709551615 - u) * 18446744073709551616 + 18446744073709551615) u
  have hr := Nat.mod_lt ((18446744073709551615 - u) * 18446744073709551616 + 18446744073709551615) (show u > 0 by omega)
  have hm : rcp u < 18446744073709551616 := by
    unfold rcp
    rw [Nat.div_lt_iff_lt_mul (by omega), Nat.mul_comm]
    omega
  rw [show ((18446744073709551615 - u) * 18446744073709551616 + 18446744073709551615) / u = rcp u from rfl] at e
  generalize ((18446744073709551615 - u) * 18446744073709551616 + 18446744073709551615) % u = r at *
  generalize rcp u = m at *
  rw [Nat.mul_add, Nat.mul_add, Nat.mul_add]
  generalize u * m = P at *
  omega
theorem xorMax (u : Nat) (h : u < 18446744073709551616) : bits .xor .u64 IntKind.u64.max (u : Int) = 18446744073709551615 - (u : Int) := by
  have e : IntKind.u64.max = ((18446744073709551615 : Nat) : Int) := by decide
  rw [e, word_xor _ _ (by omega) h]
  have h1 := xor_fand 18446744073709551615 u
  have h2 : fand 18446744073709551615 u = u := by
    rw [fand_comm]
    show u &&& 18446744073709551615 = u
    have := Nat.and_two_pow_sub_one_eq_mod u 64
    rw [Nat.mod_eq_of_lt h] at this
    exact this
  rw [h2] at h1
  generalize fxor 18446744073709551615 u = x at *
  omega
theorem recip_any (y : Nat) (w : World) (h0 : y ≠ 0) (h : y < 18446744073709551616) :
    Calls Tryz.prog 98 #[.int .u64 (y : Int)] w fun e w' => e = .returned (.int .u64 (rcp (y * 2 ^ nz y) : Int)) ∧ ∃ k, w' = w.drewN k := by
  have CN := Lib.hid (nlz_any y w h0 h)
  obtain ⟨hs, h1, h2, _⟩ := nz_spec h0 h
  have hsh : IntKind.u64.wrap ((y : Int) * 2 ^ nz y) = ((y * 2 ^ nz y : Nat) : Int) := by
    have e : (y : Int) * 2 ^ nz y = ((y * 2 ^ nz y : Nat) : Int) := by push_cast; rfl
    rw [e, wrapM, Nat.mod_eq_of_lt h2]
  obtain ⟨u, hu⟩ : ∃ u, u = y * 2 ^ nz y := ⟨_, rfl⟩
  rw [← hu] at hsh h1 h2 ⊢
  have hxm := xorMax u h2
  have CD : Hid (∀ W, Calls Tryz.prog 97 #[.int .u64 (18446744073709551615 - (u : Int)), .int .u64 18446744073709551615, .int .u64 (u : Int)] W fun e w' => ∃ r : Int, e = .returned (.tuple #[.int .u64 (rcp u : Int), .int .u64 r]) ∧ ∃ k, w' = W.drewN k) := Lib.hid (fun W => by
    have := bitsDiv_any (18446744073709551615 - u) 18446744073709551615 u W (by omega) h2 (by omega) (by omega) (.inr h1)
    have e : ((18446744073709551615 - u : Nat) : Int) = 18446744073709551615 - (u : Int) := by omega
    rw [e] at this
    refine this.mono ?_
    rintro e w' ⟨rfl, k, rfl⟩
    exact ⟨_, rfl, k, rfl⟩)
  clear hu
  generalize rcp u = m at *
  generalize nz y = s at *
  go_enter Tryz.func98, Tryz.ntmps98
  go_wp2_with fail
  with_reducible refine CN.out.mono ?_
  rintro e w' ⟨rfl, rfl⟩
  clear CN
  go_wp2_with fail
  with_reducible refine (CD.out _).mono ?_
  rintro e w' ⟨r, rfl, k, rfl⟩
  go_wp2_with fail
  go_ret
  exact ⟨rfl, k, rfl⟩
/-- the scaled dividend -/
theorem scale (s x1 x0 y : Nat) (hs : s < 64) (hx1 : x1 < y) (hx0 : x0 < 18446744073709551616) (hy : y * 2 ^ s < 18446744073709551616) :
    (x1 * 18446744073709551616 + x0) * 2 ^ s = (x1 * 2 ^ s + x0 / 2 ^ (64 - s)) * 18446744073709551616 + x0 * 2 ^ s % 18446744073709551616 ∧ x1 * 2 ^ s + x0 / 2 ^ (64 - s) < y * 2 ^ s ∧ x1 * 2 ^ s < 18446744073709551616 ∧ IntKind.u64.wrap ((x1 : Int) * 2 ^ s) = ((x1 * 2 ^ s : Nat) : Int) ∧ bits .or .u64 ((x1 * 2 ^ s : Nat) : Int) ((x0 : Int) / 2 ^ (64 - s)) = ((x1 * 2 ^ s + x0 / 2 ^ (64 - s) : Nat) : Int) ∧ IntKind.u64.wrap ((x0 : Int) * 2 ^ s) = ((x0 * 2 ^ s % 18446744073709551616 : Nat) : Int) ∧ IntKind.u64.wrap ((y : Int) * 2 ^ s) = ((y * 2 ^ s : Nat) : Int) := by
  have e := two64 s (by omega)
  have hp : 0 < 2 ^ s := Nat.pow_pos (by omega)
  have hq : 0 < 2 ^ (64 - s) := Nat.pow_pos (by omega)
  have h1 : x1 * 2 ^ s + 2 ^ s ≤ y * 2 ^ s := by
    have := Nat.mul_le_mul_right (2 ^ s) hx1
    rwa [Nat.succ_mul] at this
  have h2 : x0 / 2 ^ (64 - s) < 2 ^ s := by rw [Nat.div_lt_iff_lt_mul hq, ← e]; exact hx0
  have h3 : x0 * 2 ^ s = x0 / 2 ^ (64 - s) * 18446744073709551616 + x0 * 2 ^ s % 18446744073709551616 := by
    have h4 := Nat.div_add_mod (x0 * 2 ^ s) 18446744073709551616
    have h5 : x0 * 2 ^ s / 18446744073709551616 = x0 / 2 ^ (64 - s) := by
      conv => lhs; rw [e, Nat.mul_comm x0]
      exact Nat.mul_div_mul_left _ _ hp
    rw [h5] at h4
    omega
  have w1 : ∀ a : Nat, (a : Int) * 2 ^ s = ((a * 2 ^ s : Nat) : Int) := fun a => by push_cast; rfl
  have w2 : (x0 : Int) / 2 ^ (64 - s) = ((x0 / 2 ^ (64 - s) : Nat) : Int) := by push_cast; rfl
  have hlt : x1 * 2 ^ s < 18446744073709551616 := by omega
  refine ⟨?_, by omega, hlt, ?_, ?_, ?_, ?_⟩
  · rw [Nat.add_mul, Nat.add_mul, h3]
    have : x1 * 18446744073709551616 * 2 ^ s = x1 * 2 ^ s * 18446744073709551616 := by rw [Nat.mul_assoc, Nat.mul_comm 18446744073709551616, ← Nat.mul_assoc]
    rw [this]
    omega
  · rw [w1, wrapM, Nat.mod_eq_of_lt hlt]
  · rw [w2, u64_or_nat _ _ hlt (by omega)]
    have h9 := shl_word s x1 x0 (by omega) hx0
    rw [Nat.mod_eq_of_lt hlt] at h9
    rw [h9]
  · rw [w1, wrapM]
  · rw [w1, wrapM, Nat.mod_eq_of_lt hy]
theorem shr_back (s R r : Nat) (h : r = R * 2 ^ s) : (r : Int) / 2 ^ s = ((R : Nat) : Int) := by
  subst h
  have e : ((R * 2 ^ s : Nat) : Int) / 2 ^ s = ((R * 2 ^ s / 2 ^ s : Nat) : Int) := by push_cast; rfl
  rw [e, Nat.mul_div_cancel _ (Nat.pow_pos (by omega))]
theorem scale_zero (x1 x0 y s : Nat) (hx0 : x0 < 18446744073709551616) (h : s = 0) : x1 * 2 ^ s + x0 / 2 ^ (64 - s) = x1 ∧ x0 * 2 ^ s % 18446744073709551616 = x0 ∧ y * 2 ^ s = y := by
  subst h
  have e : x0 / 2 ^ (64 - 0) = 0 := Nat.div_eq_of_lt hx0
  rw [e, Nat.pow_zero, Nat.mul_one, Nat.mul_one, Nat.mul_one]
  exact ⟨rfl, Nat.mod_eq_of_lt hx0, rfl⟩
/-- the words of the guess and of what it leaves -/
theorem div_core (B d m X1 X0 : Nat) (hd : B ≤ 2 * d) (hdB : d < B) (hm : d * (m + B) < B * B) (hm2 : B * B ≤ d * (m + B + 1)) (hX1 : X1 < d) (hX0 : X0 < B) :
    ∃ q R, (m * X1 / B + X1 + (m * X1 % B + X0 + 0) / B) % B = q ∧ q < B ∧ (m * X1 % B + X0 + 0) / B ≤ 1 ∧ X1 * B + X0 = d * q + R ∧ R < B + d ∧
      (X0 + B - d * q % B - 0) % B = R % B ∧ (X1 + B - d * q / B - (if X0 < d * q % B + 0 then 1 else 0)) % B = R / B := by
  have hB : 0 < B := by omega
  have hst := recip_step B d m X1 X0 _ hd hdB hm hm2 hX1 hX0 rfl
  have hq0 : (X1 * (m + B) + X0) / B = m * X1 / B + X1 + (m * X1 % B + X0) / B := by
    have e : X1 * (m + B) + X0 = (m * X1 % B + X0) + B * (m * X1 / B + X1) := by
      have := Nat.div_add_mod (m * X1) B
      rw [Nat.mul_add, Nat.mul_add, Nat.mul_comm X1 m, Nat.mul_comm X1 B]
      omega
    rw [e, Nat.add_mul_div_left _ _ hB]; omega
  rw [hq0] at hst
  have hc : (m * X1 % B + X0) / B ≤ 1 := by
    have h1 := Nat.mod_lt (m * X1) hB
    have : (m * X1 % B + X0) / B < 2 := by rw [Nat.div_lt_iff_lt_mul hB]; omega
    omega
  generalize m * X1 / B + X1 + (m * X1 % B + X0) / B = q at *
  have hqB : q < B := by
    have h1 : X1 * B + B ≤ d * B := by have := Nat.mul_le_mul_right B hX1; rwa [Nat.succ_mul] at this
    have h2 : d * q < d * B := by omega
    exact Nat.lt_of_mul_lt_mul_left h2
  refine ⟨q, X1 * B + X0 - d * q, ?_, hqB, hc, by omega, by omega, ?_, ?_⟩
  · exact Nat.mod_eq_of_lt hqB
  all_goals
    have hP := Nat.div_add_mod (d * q) B
    have hPm := Nat.mod_lt (d * q) hB
    have h1 := hst.1
    have h2 : X1 * B + X0 - d * q < B + d := by omega
    generalize d * q / B = p1 at *
    generalize d * q % B = p0 at *
    generalize d * q = P at *
    subst hP
    have hp1 : p1 ≤ X1 := by
      apply Nat.le_of_lt_succ
      have : B * p1 < B * (X1 + 1) := by rw [Nat.mul_add, Nat.mul_one, Nat.mul_comm B X1]; omega
      exact Nat.lt_of_mul_lt_mul_left this
    obtain ⟨k, rfl⟩ : ∃ k, X1 = p1 + k := ⟨X1 - p1, by omega⟩
    have e : (p1 + k) * B = B * p1 + k * B := by rw [Nat.add_mul, Nat.mul_comm p1]
    rw [e] at h1 h2 ⊢
  · by_cases hb : X0 < p0
    · have hk : k ≠ 0 := by rintro rfl; omega
      obtain ⟨j, rfl⟩ : ∃ j, k = j + 1 := ⟨k - 1, by omega⟩
      rw [Nat.add_mul, Nat.one_mul] at h1 h2 ⊢
      have e2 : B * p1 + (j * B + B) + X0 - (B * p1 + p0) = (X0 + B - p0) + j * B := by omega
      rw [e2, Nat.add_mul_mod_self_right, Nat.sub_zero]
    · have e2 : B * p1 + k * B + X0 - (B * p1 + p0) = (X0 - p0) + k * B := by omega
      have e3 : X0 + B - p0 - 0 = (X0 - p0) + B := by omega
      rw [e2, e3, Nat.add_mul_mod_self_right, Nat.add_mod_right]
  · by_cases hb : X0 < p0
    · have hk : k ≠ 0 := by rintro rfl; omega
      obtain ⟨j, rfl⟩ : ∃ j, k = j + 1 := ⟨k - 1, by omega⟩
      rw [Nat.add_mul, Nat.one_mul] at h1 h2 ⊢
      have e2 : B * p1 + (j * B + B) + X0 - (B * p1 + p0) = (X0 + B - p0) + j * B := by omega
      rw [e2, Nat.add_mul_div_right _ _ hB, Nat.div_eq_of_lt (by omega), if_pos (by omega)]
      have : p1 + (j + 1) + B - p1 - 1 = j + B := by omega
      rw [this, Nat.add_mod_right, Nat.zero_add]
      apply Nat.mod_eq_of_lt; omega
    · have e2 : B * p1 + k * B + X0 - (B * p1 + p0) = (X0 - p0) + k * B := by omega
      rw [e2, Nat.add_mul_div_right _ _ hB, Nat.div_eq_of_lt (by omega), if_neg (by omega)]
      have : p1 + k + B - p1 - 0 = k + B := by omega
      rw [this, Nat.add_mod_right, Nat.zero_add]
      apply Nat.mod_eq_of_lt; omega
set_option maxHeartbeats 3200000 in
theorem divWW_any (x1 x0 y : Nat) (w : World) (h0 : y ≠ 0) (hy : y < 18446744073709551616) (hx1 : x1 < y) (hx0 : x0 < 18446744073709551616) :
    Calls Tryz.prog 99 #[.int .u64 (x1 : Int), .int .u64 (x0 : Int), .int .u64 (y : Int), .int .u64 (rcp (y * 2 ^ nz y) : Int)] w (TwoPost ((x1 * 18446744073709551616 + x0) / y) ((x1 * 18446744073709551616 + x0) % y) w) := by
  have CN := Lib.hid (nlz_any y w h0 hy)
  obtain ⟨hs, hd1, hd2, _⟩ := nz_spec h0 hy
  obtain ⟨hX, hX1, hx1s, k1, k2, k3, k4⟩ := scale (nz y) x1 x0 y hs hx1 hx0 hd2
  obtain ⟨m0, m1, m2⟩ := rcp_spec hd1 hd2
  have hQ : (x1 * 18446744073709551616 + x0) * 2 ^ nz y / (y * 2 ^ nz y) = (x1 * 18446744073709551616 + x0) / y := Nat.mul_div_mul_right _ _ (Nat.pow_pos (by omega))
  have hR : (x1 * 18446744073709551616 + x0) * 2 ^ nz y % (y * 2 ^ nz y) = (x1 * 18446744073709551616 + x0) % y * 2 ^ nz y := Nat.mul_mod_mul_right _ _ _
  rw [hX] at hQ hR
  have hz := scale_zero x1 x0 y (nz y) hx0
  have hX0 : x0 * 2 ^ nz y % 18446744073709551616 < 18446744073709551616 := Nat.mod_lt _ (by omega)
  have h64 : ((64 - nz y : Nat) : Int) = 64 - (nz y : Int) := by omega
  obtain ⟨QF, hQF⟩ : ∃ QF, QF = (x1 * 18446744073709551616 + x0) / y := ⟨_, rfl⟩
  obtain ⟨RF, hRF⟩ : ∃ RF, RF = (x1 * 18446744073709551616 + x0) % y := ⟨_, rfl⟩
  rw [← hQF] at hQ ⊢
  rw [← hRF] at hR ⊢
  have hQFe := hQF
  clear hQF hRF
  have hsh := shr_back (nz y) RF
  with_reducible generalize rcp (y * 2 ^ nz y) = m at *
  with_reducible generalize x1 * 2 ^ nz y + x0 / 2 ^ (64 - nz y) = X1 at *
  with_reducible generalize x0 * 2 ^ nz y % 18446744073709551616 = X0 at *
  with_reducible generalize y * 2 ^ nz y = d at *
  with_reducible generalize x1 * 2 ^ nz y = x1s at *
  clear hX
  obtain ⟨q, R, e1, hq, hc, hXR, hRd, e2, e3⟩ := div_core 18446744073709551616 d m X1 X0 (by omega) hd2 m1 m2 hX1 hX0
  have hme := recip_mend 18446744073709551616 d q R _ (by omega) hd2 hXR hRd
  rw [hQ, hR] at hme
  have M1 : Hid (∀ W, Calls Tryz.prog 114 #[.int .u64 (m : Int), .int .u64 (X1 : Int)] W (TwoPost (m * X1 / 18446744073709551616) (m * X1 % 18446744073709551616) W)) := Lib.hid (fun W => bitsMul_any m X1 m0 (by omega) W)
  have M2 : Hid (∀ W, ∃ z, Calls Tryz.prog 86 #[.int .u64 ((m * X1 % 18446744073709551616 : Nat) : Int), .int .u64 (X0 : Int), .int .u64 0] W (TwoPost z ((m * X1 % 18446744073709551616 + X0 + 0) / 18446744073709551616) W)) := Lib.hid (fun W => ⟨_, bitsAdd_any _ X0 0 W (by omega)⟩)
  have M3 : Hid (∀ W, ∃ z, Calls Tryz.prog 86 #[.int .u64 ((m * X1 / 18446744073709551616 : Nat) : Int), .int .u64 (X1 : Int), .int .u64 (((m * X1 % 18446744073709551616 + X0 + 0) / 18446744073709551616 : Nat) : Int)] W (TwoPost q z W)) := Lib.hid (fun W => ⟨_, by
    have := bitsAdd_any (m * X1 / 18446744073709551616) X1 _ W hc
    rw [e1] at this
    exact this⟩)
  have M4 : Hid (∀ W, Calls Tryz.prog 114 #[.int .u64 (d : Int), .int .u64 (q : Int)] W (TwoPost (d * q / 18446744073709551616) (d * q % 18446744073709551616) W)) := Lib.hid (fun W => bitsMul_any d q hd2 hq W)
  have M5 : Hid (∀ W, Calls Tryz.prog 88 #[.int .u64 (X0 : Int), .int .u64 ((d * q % 18446744073709551616 : Nat) : Int), .int .u64 0] W (TwoPost (R % 18446744073709551616) (if X0 < d * q % 18446744073709551616 + 0 then 1 else 0) W)) := Lib.hid (fun W => by
    have := bitsSub_any X0 (d * q % 18446744073709551616) 0 W (by omega)
    rw [e2] at this
    exact this)
  have M6 : Hid (∀ W, ∃ z, Calls Tryz.prog 88 #[.int .u64 (X1 : Int), .int .u64 ((d * q / 18446744073709551616 : Nat) : Int), .int .u64 ((if X0 < d * q % 18446744073709551616 + 0 then 1 else 0 : Nat) : Int)] W (TwoPost (R / 18446744073709551616) z W)) := Lib.hid (fun W => ⟨_, by
    have := bitsSub_any X1 (d * q / 18446744073709551616) (if X0 < d * q % 18446744073709551616 + 0 then 1 else 0) W (by split <;> omega)
    rw [e3] at this
    exact this⟩)
  with_reducible generalize (if X0 < d * q % 18446744073709551616 + 0 then 1 else 0 : Nat) = bw at *
  with_reducible generalize (m * X1 % 18446744073709551616 + X0 + 0) / 18446744073709551616 = cw at *
  with_reducible generalize m * X1 / 18446744073709551616 = t1 at *
  with_reducible generalize m * X1 % 18446744073709551616 = t0 at *
  with_reducible generalize d * q / 18446744073709551616 = p1 at *
  with_reducible generalize d * q % 18446744073709551616 = p0 at *
  obtain ⟨R1, hR1⟩ : ∃ R1, R1 = R / 18446744073709551616 := ⟨_, rfl⟩
  obtain ⟨R0, hR0⟩ : ∃ R0, R0 = R % 18446744073709551616 := ⟨_, rfl⟩
  rw [← hR1] at M6
  rw [← hR0] at M5
  have hRe : R0 + 18446744073709551616 * R1 = R ∧ R0 < 18446744073709551616 := by omega
  clear hR0 hR1
  clear e1 e2 e3 hXR m1 m2 hQ hR
  generalize nz y = s at *
  have hqf : QF < 18446744073709551616 := by rw [hQFe]; exact (Nat.div_lt_iff_lt_mul (by omega)).mpr (by have := Nat.mul_le_mul_right 18446744073709551616 hx1; rw [Nat.succ_mul] at this; rw [Nat.mul_comm _ y, Nat.mul_comm y]; omega)
  clear hQFe
  go_enter Tryz.func99, Tryz.ntmps99
  go_wp2_with fail
  with_reducible refine CN.out.mono ?_
  rintro e w' ⟨rfl, rfl⟩
  clear CN
  go_upto_if 26 with fail
  obtain ⟨S, hS⟩ : ∃ S, S = ((s : Int) != 0) := ⟨_, rfl⟩
  rw [← hS]
  go_cut [0, 1, 2] from 27 to 40 (fun a b c wx => a = .int .u64 (X1 : Int) ∧ b = .int .u64 (X0 : Int) ∧ c = .int .u64 (d : Int) ∧ wx = w')
  case first =>
    cases S
    · have hs0 : s = 0 := by
        by_cases h : s = 0
        · exact h
        · exfalso
          have : ((s : Int) != 0) = true := by rw [bne_iff_ne]; omega
          rw [this] at hS
          cases hS
      obtain ⟨rfl, rfl, rfl⟩ := hz hs0
      clear hs0 hS
      go_wp2_with fail
      go_meet
      exact ⟨rfl, rfl, rfl, rfl⟩
    · clear hS
      go_wp2_with fail
      go_meet
      exact ⟨rfl, rfl, rfl, rfl⟩
  obtain ⟨rfl, rfl, rfl, rfl⟩ := hcut
  go_wp2_with fail
  with_reducible refine (M1.out _).mono ?_
  rintro e w' ⟨rfl, rfl⟩
  clear M1
  go_wp2_with fail
  obtain ⟨z, m2⟩ := M2.out wc
  clear M2
  with_reducible refine m2.mono ?_
  clear m2
  rintro e w' ⟨rfl, rfl⟩
  go_wp2_with fail
  obtain ⟨z3, m3⟩ := M3.out wc
  clear M3
  with_reducible refine m3.mono ?_
  clear m3
  rintro e w' ⟨rfl, rfl⟩
  go_wp2_with fail
  with_reducible refine (M4.out _).mono ?_
  rintro e w' ⟨rfl, rfl⟩
  clear M4
  go_wp2_with fail
  with_reducible refine (M5.out _).mono ?_
  rintro e w' ⟨rfl, rfl⟩
  clear M5
  go_wp2_with fail
  obtain ⟨z6, m6⟩ := M6.out wc
  clear M6
  with_reducible refine m6.mono ?_
  clear m6
  rintro e w' ⟨rfl, rfl⟩
  obtain ⟨r1, hr1⟩ : ∃ r1, r1 = R - d := ⟨_, rfl⟩
  obtain ⟨q1, hq1⟩ : ∃ q1, q1 = q + 1 := ⟨_, rfl⟩
  obtain ⟨r2, hr2⟩ : ∃ r2, r2 = r1 - d := ⟨_, rfl⟩
  rw [← hr1, ← hr2, ← hq1] at hme
  by_cases hb : 18446744073709551616 ≤ R
  · obtain ⟨h1, h2, h3⟩ := hme.1 hb
    clear hme
    have a1 : R1 = 1 := by omega
    have a2 : IntKind.u64.wrap ((R0 : Int) - (d : Int)) = (r1 : Int) := by rw [IntKind.wrap_u64]; omega
    subst a1
    by_cases hd : d ≤ r1
    · obtain ⟨h4, h5⟩ := h2 hd
      clear h2 h3
      have a3 : IntKind.u64.wrap ((q : Int) + 1) = (q1 : Int) := by rw [IntKind.wrap_u64]; omega
      have a4 : IntKind.u64.wrap ((q1 : Int) + 1) = (QF : Int) := by rw [IntKind.wrap_u64]; omega
      have a5 : IntKind.u64.wrap ((r1 : Int) - (d : Int)) = (r2 : Int) := by rw [IntKind.wrap_u64]; omega
      have a6 := hsh _ h5.symm
      have a7 : (d : Int) ≤ (r1 : Int) := by omega
      clear h4 h5 hsh hqf hb
      clear hr1 hq1 hr2 hRe
      go_wp2_with fail
      go_ret2
      exact ⟨rfl, rfl⟩
    · obtain ⟨h4, h5⟩ := h3 hd
      clear h2 h3
      have a3 : IntKind.u64.wrap ((q : Int) + 1) = (QF : Int) := by rw [IntKind.wrap_u64]; omega
      have a6 := hsh _ h5.symm
      have a7 : (r1 : Int) < (d : Int) := by omega
      clear h4 h5 hsh hqf hb
      clear hr1 hq1 hr2 hRe
      go_wp2_with fail
      go_ret2
      exact ⟨rfl, rfl⟩
  · have hR0R : R0 = R := by omega
    obtain ⟨h2, h3⟩ := hme.2 (by omega)
    clear hme
    have a1 : R1 = 0 := by omega
    subst a1
    by_cases hd : d ≤ R
    · obtain ⟨h4, h5⟩ := h2 hd
      clear h2 h3
      have a2 : IntKind.u64.wrap ((R0 : Int) - (d : Int)) = (r1 : Int) := by rw [IntKind.wrap_u64]; omega
      have a3 : IntKind.u64.wrap ((q : Int) + 1) = (QF : Int) := by rw [IntKind.wrap_u64]; omega
      have a6 := hsh _ h5.symm
      have a7 : (d : Int) ≤ (R0 : Int) := by omega
      clear h4 h5 hsh hqf hb
      clear hr1 hq1 hr2 hRe hR0R
      go_wp2_with fail
      go_ret2
      exact ⟨rfl, rfl⟩
    · obtain ⟨h4, h5⟩ := h3 hd
      subst h4
      have a6 := hsh _ h5.symm
      rw [← hR0R] at a6
      have a7 : (R0 : Int) < (d : Int) := by omega
      clear h5 hsh hqf hb h2 h3
      clear hr1 hq1 hr2 hRe hR0R
      go_wp2_with fail
      go_ret2
      exact ⟨rfl, rfl⟩
end Go.Proofs.YtpcnmgldmnncoaaGreatDoor

namespace Go.Proofs.YtpcnmgldmnncoaaGreatDoor
open Go.RowKit Dig
set_option linter.unusedVariables false
set_option linter.unusedSimpArgs false
set_option maxRecDepth 100000

theorem splice_front (L : List Value) (p : Nat) (cs : List Value) (v : Value) (h : p + 1 + cs.length ≤ L.length) : (splice L (p + 1) cs).set p v = splice L p (v :: cs) := by
  unfold splice
  have e1 : (L.take p).length = p := by simp; omega
  have e2 : L.take (p + 1) = L.take p ++ [L[p]'(by omega)] := by rw [List.take_append_getElem]
  rw [e2, List.append_assoc, List.set_append_right _ _ (by omega), e1, Nat.sub_self]
  simp [Nat.add_assoc, Nat.add_comm, Nat.add_left_comm]
theorem drop_step (B : Nat) (xs : List Nat) (k : Nat) (hk : k < xs.length) : nval B (xs.drop k) = xs.getD k 0 + B * nval B (xs.drop (k + 1)) := by
  rw [List.drop_eq_getElem_cons hk, List.getD_eq_getElem?_getD, List.getElem?_eq_getElem hk]
  rfl
theorem dgs_cons (B j d Q : Nat) (hd : d < B) : dgs B (j + 1) (d + B * Q) = d :: dgs B j Q := by
  show (d + B * Q) % B :: dgs B j ((d + B * Q) / B) = _
  rw [Nat.add_mul_mod_self_left, Nat.mod_eq_of_lt hd, Nat.add_mul_div_left _ _ (by omega), Nat.div_eq_of_lt hd, Nat.zero_add]
theorem row_step (B x T y : Nat) (hy : 0 < y) (hx : x < B) : (x + B * T) / y = (T % y * B + x) / y + B * (T / y) ∧ (x + B * T) % y = (T % y * B + x) % y ∧ (T % y * B + x) / y < B := by
  have e : x + B * T = (T % y * B + x) + y * (B * (T / y)) := by
    have := Nat.div_add_mod T y
    conv => lhs; rw [← this]
    rw [Nat.mul_add, Nat.mul_comm (T % y) B, Nat.mul_left_comm y B]
    omega
  refine ⟨by rw [e, Nat.add_mul_div_left _ _ hy], by rw [e, Nat.add_mul_mod_self_left], ?_⟩
  rw [Nat.div_lt_iff_lt_mul hy]
  have h := Nat.mod_lt T hy
  have : (T % y + 1) * B ≤ y * B := Nat.mul_le_mul_right _ h
  rw [Nat.add_mul, Nat.one_mul] at this
  rw [Nat.mul_comm B y]
  omega
set_option maxHeartbeats 1600000 in
theorem divWVW_any (xs : List Nat) (y : Nat) (L : List Value) (b o n cz B : Nat) (x : Value) (w : World) (hx : Sl w B x (xs.map wv)) (lx : xs.length = n) (hn0 : 0 < n)
    (hxs : ∀ x ∈ xs, x < 18446744073709551616) (hy0 : 0 < y) (hy : y < 18446744073709551616) (hB : B ≤ b) (hBw : B ≤ w.heap.size) (hk : Blk w b 79 L) (hn : o + n ≤ L.length) (hl : n ≤ 1048576) :
    Calls Tryz.prog 74 #[.slice (some ⟨b, o, none⟩) n cz, .int .u64 0, x, .int .u64 y] w
      fun e w' => e = .returned (.int .u64 ((nval 18446744073709551616 xs % y : Nat) : Int)) ∧ Blk w' b 79 (splice L o ((dgs 18446744073709551616 n (nval 18446744073709551616 xs / y)).map wv)) ∧ Up (some b) w w' := by
  obtain ⟨a1, c1, rfl, hc1, _⟩ := id hx
  simp only [List.length_map, lx] at hx hc1 ⊢
  have HX := Lib.hid hx
  have H1 := Lib.hid hxs
  have LX := Lib.hid lx
  have HK := Lib.hid hk
  have CR := Lib.hid (fun W => recip_any y W (by omega) hy)
  clear hx hxs lx hk
  by_cases hn1 : n = 1
  · subst hn1
    obtain ⟨u, rfl⟩ : ∃ u, xs = [u] := by
      have := LX.out
      match xs, this with
      | [u], _ => exact ⟨u, rfl⟩
    obtain ⟨b1, o1, rfl, hb1, he1, q1⟩ := HX.out.word 0 (by simp)
    clear he1
    have hcell := HK.out.cell o (by omega)
    have hf := HK.out.free o
    have lbb := HK.out.lt
    have g1 : u < 18446744073709551616 := H1.out u (by simp)
    have CB := Lib.hid (fun W => bitsDiv_any 0 u y W hy0 hy hy0 g1 (.inl rfl))
    rw [Nat.zero_mul, Nat.zero_add, Int.ofNat_zero] at CB
    have hset : L.set o (wv (u / y)) = splice L o ((dgs 18446744073709551616 1 (u / y)).map wv) := by
      have h := splice_set L o 0 [] (wv (u / y)) rfl (by omega)
      rw [splice_nil, Nat.add_zero] at h
      have hq : u / y < 18446744073709551616 := Nat.lt_of_le_of_lt (Nat.div_le_self _ _) g1
      rw [h]
      simp [dgs, Nat.mod_eq_of_lt hq]
    have hv : nval 18446744073709551616 [u] = u := by simp [nval]
    have e0 : ([u] : List Nat).getD 0 0 = u := rfl
    rw [e0, Nat.add_zero] at q1
    rw [hv]
    have HSET := Lib.hid hset
    clear e0 hset hv CR H1 LX hc1 hn0 hl
    generalize u / y = q at *
    generalize u % y = r at *
    generalize L.getD o undef = cv at *
    go_enter Tryz.func74, Tryz.ntmps74
    go_wp2_with fail
    with_reducible refine (CB.out _).mono ?_
    rintro e w' ⟨rfl, k0, rfl⟩
    go_wp2_with fail
    go_ret
    refine ⟨rfl, ?_, (Up.drewN (Up.refl _ _) k0).set _ _⟩
    have := (HK.out.drewN k0).set o (wv q)
    rw [HSET.out] at this
    exact this
  · have hne : ((n : Int) == 1) = false := by rw [beq_eq_false_iff_ne]; omega
    go_enter Tryz.func74, Tryz.ntmps74
    go_wp2_with fail
    with_reducible refine (CR.out _).mono ?_
    rintro e w' ⟨rfl, k0, rfl⟩
    go_wp2_with fail
    go_loopw [8, 12] (fun r i wr => ∃ k : Nat, k ≤ n ∧ i = .int .i64 ((k : Int) - 1) ∧ r = .int .u64 ((nval 18446744073709551616 (xs.drop k) % y : Nat) : Int) ∧ Hid (Blk wr b 79 (splice L (o + k) ((dgs 18446744073709551616 (n - k) (nval 18446744073709551616 (xs.drop k) / y)).map wv))) ∧ Hid (Up (some b) w wr)) (fun _ i _ => (intOf i + 1).toNat)
    case atStart =>
      refine ⟨n, Nat.le_refl _, rfl, ?_, Lib.hid ?_, Lib.hid ((Up.refl _ _).drewN _)⟩
      · rw [List.drop_of_length_le (by rw [LX.out]; omega)]; simp [nval]
      · rw [Nat.sub_self]; simpa [dgs, splice_nil] using HK.out.drewN k0
    case round =>
      obtain ⟨k, hkn, rfl, rfl, hb, hu⟩ := hrel
      by_cases hk0 : 0 < k
      · obtain ⟨j, rfl⟩ : ∃ j, k = j + 1 := ⟨k - 1, by omega⟩
        obtain ⟨b1, o1, rfl, hb1, he1, q1⟩ := (HX.out.up hu.out hBw hB).word j (by rw [LX.out]; omega)
        clear he1
        have hlen : (splice L (o + (j + 1)) ((dgs 18446744073709551616 (n - (j + 1)) (nval 18446744073709551616 (xs.drop (j + 1)) / y)).map wv)).length = L.length := length_splice _ _ _ (by simp [dgs_length]; omega)
        have hcell := hb.out.cell (o + j) (by rw [hlen]; omega)
        have hf := hb.out.free (o + j)
        have lbb := hb.out.lt
        have g1 := getD_lt H1.out j (by rw [LX.out]; omega)
        obtain ⟨s1, s2, s3⟩ := row_step 18446744073709551616 (xs.getD j 0) (nval 18446744073709551616 (xs.drop (j + 1))) y hy0 g1
        have CD := Lib.hid (fun W => divWW_any (nval 18446744073709551616 (xs.drop (j + 1)) % y) (xs.getD j 0) y W (by omega) hy (Nat.mod_lt _ hy0) g1)
        rw [← s2, ← drop_step _ xs j (by rw [LX.out]; omega)] at CD
        have hset := splice_front L (o + j) ((dgs 18446744073709551616 (n - (j + 1)) (nval 18446744073709551616 (xs.drop (j + 1)) / y)).map wv) (wv ((nval 18446744073709551616 (xs.drop (j + 1)) % y * 18446744073709551616 + xs.getD j 0) / y)) (by simp [dgs_length]; omega)
        rw [← List.map_cons, ← dgs_cons _ _ _ _ s3, ← s1, ← drop_step _ xs j (by rw [LX.out]; omega), show n - (j + 1) + 1 = n - j by omega] at hset
        have HSET := Lib.hid hset
        clear hset s1 s2 s3 hlen
        generalize (nval 18446744073709551616 (xs.drop (j + 1)) % y * 18446744073709551616 + xs.getD j 0) / y = q at *
        generalize (splice L (o + (j + 1)) ((dgs 18446744073709551616 (n - (j + 1)) (nval 18446744073709551616 (xs.drop (j + 1)) / y)).map wv)).getD (o + j) undef = cv at *
        generalize nval 18446744073709551616 (xs.drop (j + 1)) % y = r1 at *
        obtain ⟨r0, hr0⟩ : ∃ r0, r0 = nval 18446744073709551616 (xs.drop j) % y := ⟨_, rfl⟩
        rw [← hr0] at CD
        have HR0 := Lib.hid hr0
        clear hr0
        generalize rcp (y * 2 ^ nz y) = rc at *
        generalize xs.getD j 0 = u at *
        have ei : (((j + 1 : Nat) : Int) - 1) = (j : Int) := by omega
        rw [ei]
        clear ei
        have hi1 : (0 : Int) ≤ (j : Int) := by omega
        have hi2 : (j : Int) < (n : Int) := by omega
        have hi3 : (j : Int) < (c1 : Int) := by omega
        go_wp2_with fail
        with_reducible refine (CD.out _).mono ?_
        rintro e w5 ⟨rfl, rfl⟩
        clear CD
        go_wp2_with fail
        go_roundw
        case rel =>
          have FS : ∃ k' : Nat, k' ≤ n ∧ (Value.int .i64 ((j : Int) - 1)) = .int .i64 ((k' : Int) - 1) ∧ (Value.int .u64 (r0 : Int)) = .int .u64 ((nval 18446744073709551616 (xs.drop k') % y : Nat) : Int) ∧ Hid (Blk (wr.setCell ⟨b, o + j, none⟩ (.int .u64 (q : Int))) b 79 (splice L (o + k') ((dgs 18446744073709551616 (n - k') (nval 18446744073709551616 (xs.drop k') / y)).map wv))) ∧ Hid (Up (some b) w (wr.setCell ⟨b, o + j, none⟩ (.int .u64 (q : Int)))) := by
            refine ⟨j, by omega, rfl, by rw [HR0.out], Lib.hid ?_, Lib.hid (hu.out.set _ _)⟩
            have := hb.out.set (o + j) (wv q)
            rw [← Nat.add_assoc, HSET.out] at this
            exact this
          first | exact FS | ((repeat apply Exists.intro); exact ⟨FS, rfl⟩)
        case measure => simp [intOf]
      · obtain rfl : k = 0 := by omega
        have e0 : (((0 : Nat) : Int) - 1) = -1 := rfl
        rw [e0]
        clear e0
        rw [Nat.add_zero, Nat.sub_zero, List.drop_zero] at hb
        rw [List.drop_zero]
        go_wp2_with fail
        go_ret
        exact ⟨rfl, hb.out, hu.out⟩
end Go.Proofs.YtpcnmgldmnncoaaGreatDoor
