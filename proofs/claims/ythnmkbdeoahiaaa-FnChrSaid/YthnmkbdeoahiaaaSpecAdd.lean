/- spec.digit, sum, less: the reference's sum and difference of magnitudes. -/
import Derived.Test.YthnmkbdeoahiaaaCmp2
import Derived.Test.YthnmkbdeoahiaaaNatBytes
import Derived.Test.YthnmkbdeoahiaaaSpecOf
import Derived.Test.YthnmkbdeoahiaaaCopy
namespace Go.Proofs.Ythnmkbdeoahiaaa
open Go.RowKit Dig
set_option linter.unusedVariables false
set_option linter.unusedSimpArgs false
set_option maxRecDepth 100000

/-! ### digits of sums and differences, by numbers alone -/
theorem rep_getD {B : Nat} (hB : 0 < B) {xs : List Nat} {m : Nat} (h : Rep B xs m) (i : Nat) : xs.getD i 0 = m / B ^ i % B := by
  rcases Nat.lt_or_ge i xs.length with hlt | hge
  · have h1 := nval_drop B hB xs h.lt i (by omega)
    rw [h.val] at h1
    rw [h1, List.drop_eq_getElem_cons hlt]
    simp only [nval]
    rw [Nat.add_mul_mod_self_left, List.getD_eq_getElem?_getD, List.getElem?_eq_getElem hlt]
    exact (Nat.mod_eq_of_lt (h.lt _ (List.getElem_mem hlt))).symm
  · rw [List.getD_eq_getElem?_getD, List.getElem?_eq_none hge]
    have h1 := h.val_lt
    have h2 : m < B ^ i := Nat.lt_of_lt_of_le h1 (Nat.pow_le_pow_right hB hge)
    rw [Nat.div_eq_of_lt h2]; simp
/-- what is carried into place i -/
def carN (m n i : Nat) : Nat := (m % 256 ^ i + n % 256 ^ i) / 256 ^ i
theorem carN_zero (m n : Nat) : carN m n 0 = 0 := by simp [carN, Nat.mod_one]
theorem carN_le (m n i : Nat) : carN m n i ≤ 1 := by
  unfold carN
  have hp : 0 < 256 ^ i := Nat.pow_pos (by omega)
  have h1 := Nat.mod_lt m hp
  have h2 := Nat.mod_lt n hp
  have : (m % 256 ^ i + n % 256 ^ i) / 256 ^ i < 2 := by rw [Nat.div_lt_iff_lt_mul hp]; omega
  omega
theorem carN_succ (m n i : Nat) : carN m n (i + 1) = (m / 256 ^ i % 256 + n / 256 ^ i % 256 + carN m n i) / 256 := by
  unfold carN
  have e1 : m % 256 ^ (i + 1) = m % 256 ^ i + 256 ^ i * (m / 256 ^ i % 256) := by rw [Nat.pow_succ, Nat.mod_mul]
  have e2 : n % 256 ^ (i + 1) = n % 256 ^ i + 256 ^ i * (n / 256 ^ i % 256) := by rw [Nat.pow_succ, Nat.mod_mul]
  have h := (dgs_step 256 i (m % 256 ^ i + n % 256 ^ i) (m / 256 ^ i % 256 + n / 256 ^ i % 256) (by omega)).2
  rw [Nat.mul_add] at h
  rw [e1, e2, show m % 256 ^ i + 256 ^ i * (m / 256 ^ i % 256) + (n % 256 ^ i + 256 ^ i * (n / 256 ^ i % 256)) = m % 256 ^ i + n % 256 ^ i + (256 ^ i * (m / 256 ^ i % 256) + 256 ^ i * (n / 256 ^ i % 256)) by omega, h]
  congr 1; omega
theorem carN_digit (m n i : Nat) : (m + n) / 256 ^ i % 256 = (m / 256 ^ i % 256 + n / 256 ^ i % 256 + carN m n i) % 256 := by
  have hp : 0 < 256 ^ i := Nat.pow_pos (by omega)
  have e : (m + n) / 256 ^ i = carN m n i + (m / 256 ^ i + n / 256 ^ i) := by
    unfold carN
    have h1 := Nat.div_add_mod m (256 ^ i)
    have h2 := Nat.div_add_mod n (256 ^ i)
    have e1 : m + n = (m % 256 ^ i + n % 256 ^ i) + 256 ^ i * (m / 256 ^ i + n / 256 ^ i) := by rw [Nat.mul_add]; omega
    conv => lhs; rw [e1]
    rw [Nat.add_mul_div_left _ _ hp]
  rw [e]; omega
/-- what is borrowed at place i -/
def borN (m n i : Nat) : Nat := if m % 256 ^ i < n % 256 ^ i then 1 else 0
theorem borN_zero (m n : Nat) : borN m n 0 = 0 := by simp [borN, Nat.mod_one]
theorem borN_le (m n i : Nat) : borN m n i ≤ 1 := by unfold borN; split <;> omega
theorem borN_succ (m n i : Nat) : borN m n (i + 1) = if m / 256 ^ i % 256 < n / 256 ^ i % 256 + borN m n i then 1 else 0 := by
  unfold borN
  have hp : 0 < 256 ^ i := Nat.pow_pos (by omega)
  have e1 : m % 256 ^ (i + 1) = m % 256 ^ i + 256 ^ i * (m / 256 ^ i % 256) := by rw [Nat.pow_succ, Nat.mod_mul]
  have e2 : n % 256 ^ (i + 1) = n % 256 ^ i + 256 ^ i * (n / 256 ^ i % 256) := by rw [Nat.pow_succ, Nat.mod_mul]
  rw [e1, e2]
  exact (sub_step 256 i (m % 256 ^ i) (n % 256 ^ i) (m / 256 ^ i % 256) (n / 256 ^ i % 256) (by omega) (Nat.mod_lt _ hp) (Nat.mod_lt _ hp) (Nat.mod_lt _ (by omega))).2
theorem borN_digit (m n i : Nat) (h : n ≤ m) : (m - n) / 256 ^ i % 256 = (m / 256 ^ i % 256 + 256 - n / 256 ^ i % 256 - borN m n i) % 256 := by
  have hp : 0 < 256 ^ i := Nat.pow_pos (by omega)
  have h1 := Nat.div_add_mod m (256 ^ i)
  have h2 := Nat.div_add_mod n (256 ^ i)
  have h3 := Nat.mod_lt m hp
  have h4 := Nat.mod_lt n hp
  have hle : n / 256 ^ i ≤ m / 256 ^ i := Nat.div_le_div_right h
  unfold borN
  generalize m / 256 ^ i = R at *
  generalize n / 256 ^ i = T at *
  generalize m % 256 ^ i = X at *
  generalize n % 256 ^ i = Y at *
  generalize 256 ^ i = P at *
  by_cases hlt : X < Y
  · simp only [if_pos hlt]
    have hRT : T < R := by
      rcases Nat.lt_or_ge T R with hh | hh
      · exact hh
      · have : T = R := by omega
        subst this; omega
    have e : m - n = (X + P - Y) + P * (R - T - 1) := by
      have : P * R = P * (R - T - 1) + P * T + P := by rw [← Nat.mul_add, ← Nat.mul_succ]; congr 1; omega
      omega
    rw [e, Nat.add_mul_div_left _ _ hp, Nat.div_eq_of_lt (by omega)]; omega
  · simp only [if_neg hlt]
    have e : m - n = (X - Y) + P * (R - T) := by
      have : P * R = P * (R - T) + P * T := by rw [← Nat.mul_add]; congr 1; omega
      omega
    rw [e, Nat.add_mul_div_left _ _ hp, Nat.div_eq_of_lt (by omega)]; omega

set_option maxHeartbeats 400000 in
theorem digit_any (m : Nat) (v : Value) (i B : Nat) (w : World) (h : By w B v m) (hm : m < lim) (hi : i ≤ 1048576) :
    Calls Try.prog 45 #[v, .int .i64 i] w fun e w' => e = .returned (.int .i64 ((m / 256 ^ i % 256 : Nat) : Int)) ∧ w = w' := by
  obtain ⟨xs, hr, hs⟩ := h
  have hl := hr.length_le hm
  have hd := rep_getD (by omega) hr i
  rw [← hd]
  obtain ⟨a, c, rfl, hc, hrd⟩ := hs
  simp only [List.length_map, ne_eq, List.map_eq_nil_iff] at hc hrd ⊢
  by_cases hlt : i < xs.length
  · obtain ⟨b, o, rfl, hb, hrd⟩ := hrd (by intro h; subst h; simp at hlt)
    have q := hrd (xs.length - 1 - i) (by simp; omega)
    rw [getD_map_bv xs _ (by omega)] at q
    have e : xs.reverse.getD i 0 = xs.getD (xs.length - 1 - i) 0 := by
      rw [List.getD_eq_getElem?_getD, List.getD_eq_getElem?_getD, List.getElem?_reverse hlt]
    rw [e]
    have hx : xs.getD (xs.length - 1 - i) 0 < 256 := Bytes.lt hr _ (by rw [List.getD_eq_getElem?_getD, List.getElem?_eq_getElem (by omega)]; simp)
    obtain ⟨K, hK⟩ : ∃ K, K = xs.length := ⟨_, rfl⟩
    rw [← hK] at q hx hc hlt hl ⊢
    generalize xs.getD (K - 1 - i) 0 = x at *
    have ei : ((K : Int) - 1 - (i : Int)).toNat = K - 1 - i := by omega
    have hi0 : (0 : Int) ≤ (K : Int) - 1 - (i : Int) := by omega
    have hi1 : (K : Int) - 1 - (i : Int) < (K : Int) := by omega
    have hge : ¬ (K ≤ i) := by omega
    clear hrd hr hd e hK
    go_enter Try.func45, Try.ntmps45
    go_wp2_with fail
    go_ret
    exact ⟨rfl, rfl⟩
  · have e : xs.reverse.getD i 0 = 0 := by rw [List.getD_eq_getElem?_getD, List.getElem?_eq_none (by simp; omega)]; rfl
    rw [e]
    obtain ⟨K, hK⟩ : ∃ K, K = xs.length := ⟨_, rfl⟩
    rw [← hK] at hc hlt ⊢
    clear hrd hr hd e hK
    have hge : K ≤ i := by omega
    go_enter Try.func45, Try.ntmps45
    go_wp2_with fail
    go_ret
    exact ⟨rfl, rfl⟩

theorem By.keepQ {w w1 : World} {B : Nat} {v : Value} {m : Nat} (h : By w B v m) (hb : Below B w w1) : By w1 B v m := h.below hb
/-- a row of bytes, all laid, cut -/
theorem cut_filled (N S b : Nat) (w0 w : World) (hk : Blk w b 5 (filled N S N)) (hS : S < 256 ^ N) (hN : N ≤ 1048576) (hb : Below w0.heap.size w0 w) :
    Calls Try.prog 43 #[.slice (some ⟨b, 0, none⟩) N N] w (ByPost S w0) := by
  rw [filled_all] at hk
  have hl : ((dgs 256 N S).reverse).length = N := by simp [dgs_length]
  have hsl : Sl w w.heap.size (.slice (some ⟨b, 0, none⟩) N N) (((dgs 256 N S).reverse).map bv) := hk.sl 0 _ N N w.heap.size (by simpa using hl) (by simp [dgs_length]) (fun i _ => by rw [Nat.zero_add]) (Nat.le_refl _) hk.lt
  refine (cut_any _ _ w (fun x hx => dgs_lt 256 (by omega) N S x (by simpa using hx)) (by omega) hsl).mono ?_
  rintro e w' ⟨v, ms, rfl, hB, _, hs, hbel⟩
  have e1 : bval ((dgs 256 N S).reverse) = S := by unfold bval; rw [List.reverse_reverse, dgs_val_of _ _ _ hS]
  rw [e1] at hB
  exact ⟨v, rfl, ⟨ms, hB, hs⟩, hb.trans (hbel.mono hb.size)⟩
theorem run_mk8 (N : Nat) (hN : N ≤ 1048576) (w : World) : (Instr.makeSlice 22 (.int .i64 (N : Int)) (.int .i64 (N : Int))).run Try.prog w = .ok (.slice (some ⟨w.heap.size, 0, none⟩) N N) (w.alloc (.cells (filled N 0 0).toArray 5)) := by
  rw [filled_zero]
  exact run_mk (P := Try.prog) 22 5 (.int .u8 0) 1 Try.underlying22 info8 rfl N N (Nat.le_refl _) (by omega) (by omega) w
theorem filled_zero_eq (N S : Nat) : filled N 0 0 = filled N S 0 := by rw [filled_zero, filled_zero]

set_option maxHeartbeats 1600000 in
theorem sum_any (m n : Nat) (x y : Value) (w : World) (hx : By w w.heap.size x m) (hy : By w w.heap.size y n) (hm : m < lim) (hn : n < lim) :
    Calls Try.prog 36 #[x, y] w (ByPost (m + n) w) := by
  obtain ⟨xs, rx, sx⟩ := id hx
  obtain ⟨ys, ry, sy⟩ := id hy
  have lx := rx.length_le hm
  have ly := ry.length_le hn
  have vx : m < 256 ^ xs.length := by have := Rep.val_lt rx; simpa using this
  have vy : n < 256 ^ ys.length := by have := Rep.val_lt ry; simpa using this
  obtain ⟨a1, c1, rfl, hc1, _⟩ := id sx
  obtain ⟨a2, c2, rfl, hc2, _⟩ := id sy
  simp only [List.length_map] at hx hy hc1 hc2 ⊢
  obtain ⟨K1, hK1⟩ : ∃ K, K = xs.length := ⟨_, rfl⟩
  obtain ⟨K2, hK2⟩ : ∃ K, K = ys.length := ⟨_, rfl⟩
  rw [← hK1] at hx lx hc1 vx ⊢
  rw [← hK2] at hy ly hc2 vy ⊢
  obtain ⟨M, hM⟩ : ∃ M, M = max K1 K2 := ⟨_, rfl⟩
  obtain ⟨N, hN⟩ : ∃ N, N = M + 1 := ⟨_, rfl⟩
  have hS : m + n < 256 ^ N := by
    have h1 : (256 : Nat) ^ K1 ≤ 256 ^ (max K1 K2) := Nat.pow_le_pow_right (by omega) (by omega)
    have h2 : (256 : Nat) ^ K2 ≤ 256 ^ (max K1 K2) := Nat.pow_le_pow_right (by omega) (by omega)
    rw [hN, hM, Nat.pow_succ]; omega
  have hmx : max (K1 : Int) (K2 : Int) = (M : Int) := by omega
  have HM := Lib.hid hm
  have HN := Lib.hid hn
  have HX := Lib.hid hx
  have HY := Lib.hid hy
  have HS := Lib.hid hS
  have hNl : N ≤ 4097 := by omega
  have MK := Lib.hid (run_mk8 N (by omega))
  have D1 : Hid (∀ wr i, Below w.heap.size w wr → i ≤ 4097 → Calls Try.prog 45 #[.slice a1 K1 c1, .int .i64 (i : Nat)] wr fun e w' => e = .returned (.int .i64 ((m / 256 ^ i % 256 : Nat) : Int)) ∧ wr = w') := Lib.hid (by
    intro wr i hb hi
    exact digit_any m _ i w.heap.size wr (HX.out.below hb) HM.out (by omega))
  have D2 : Hid (∀ wr i, Below w.heap.size w wr → i ≤ 4097 → Calls Try.prog 45 #[.slice a2 K2 c2, .int .i64 (i : Nat)] wr fun e w' => e = .returned (.int .i64 ((n / 256 ^ i % 256 : Nat) : Int)) ∧ wr = w') := Lib.hid (by
    intro wr i hb hi
    exact digit_any n _ i w.heap.size wr (HY.out.below hb) HN.out (by omega))
  have hK1M : K1 ≤ M := by omega
  have hK2M : K2 ≤ M := by omega
  clear hx hy rx ry sx sy hm hn hS hK1 hK2 hM vx vy
  have CORE : Hid (∀ (wr : World) (i : Nat), i < N → Below w.heap.size w wr → Blk wr w.heap.size 5 (filled N (m + n) i) → (∃ v, wr.cell? ⟨w.heap.size, N - 1 - i, none⟩ = some v) ∧ wr.frozen? ⟨w.heap.size, N - 1 - i, none⟩ = false ∧
      Hid (Blk (wr.setCell ⟨w.heap.size, N - 1 - i, none⟩ (.int .u8 ((((m / 256 ^ i % 256 : Nat) : Int) + ((n / 256 ^ i % 256 : Nat) : Int) + ((carN m n i : Nat) : Int)) % 256))) w.heap.size 5 (filled N (m + n) (i + 1)))) := Lib.hid (by
    intro wr i hi hb hk
    refine ⟨⟨_, hk.cell _ (by rw [filled_length _ _ _ (by omega)]; omega)⟩, hk.free _, ?_⟩
    have h := hk.set (N - 1 - i) (bv ((m + n) / 256 ^ i % 256))
    rw [show N - 1 - i = (N - i) - 1 by omega, filled_set N (m + n) i (N - i) (by omega) (by omega)] at h
    rw [carN_digit] at h
    rw [show N - 1 - i = (N - i) - 1 by omega, show (((m / 256 ^ i % 256 : Nat) : Int) + ((n / 256 ^ i % 256 : Nat) : Int) + ((carN m n i : Nat) : Int)) % 256 = (((m / 256 ^ i % 256 + n / 256 ^ i % 256 + carN m n i) % 256 : Nat) : Int) by omega]
    exact h)
  have STEP : Hid (∀ i, (m / 256 ^ i % 256 + n / 256 ^ i % 256 + carN m n i) / 256 = carN m n (i + 1)) := Lib.hid (fun i => (carN_succ m n i).symm)
  have BD : Hid (∀ i, m / 256 ^ i % 256 < 256 ∧ n / 256 ^ i % 256 < 256 ∧ carN m n i ≤ 1) := Lib.hid (fun i => ⟨Nat.mod_lt _ (by omega), Nat.mod_lt _ (by omega), carN_le m n i⟩)
  subst hN
  have FIN : Hid (∀ wr, Below w.heap.size w wr → Blk wr w.heap.size 5 (filled (M + 1) (m + n) (M + 1)) → Calls Try.prog 43 #[.slice (some ⟨w.heap.size, 0, none⟩) (M + 1) (M + 1)] wr (ByPost (m + n) w)) := Lib.hid (fun wr hb hk => cut_filled (M + 1) (m + n) w.heap.size w wr hk HS.out (by omega) hb)
  have mk := MK.out
  simp only [Int.natCast_add, Int.natCast_one] at mk
  have B0 : Hid (Below w.heap.size w (w.alloc (.cells (filled (M + 1) 0 0).toArray 5)) ∧ Blk (w.alloc (.cells (filled (M + 1) 0 0).toArray 5)) w.heap.size 5 (filled (M + 1) (m + n) 0)) := Lib.hid ⟨(Below.refl _ _).alloc (Nat.le_refl _) _, by rw [← filled_zero_eq]; exact Blk.new _ _ _⟩
  have hMl : M ≤ 4096 := by omega
  go_enter Try.func36, Try.ntmps36
  go_wp2_with fail
  go_loopw [7, 8, 9] (fun c i s wr => ∃ k : Nat, k ≤ M + 1 ∧ i = .int .i64 k ∧ c = .int .i64 ((carN m n k : Nat) : Int) ∧ Hid (Below w.heap.size w wr) ∧ Hid (Blk wr w.heap.size 5 (filled (M + 1) (m + n) k))) (fun _ i _ _ => M + 1 - (intOf i).toNat)
  case atStart => exact ⟨0, by omega, rfl, by rw [carN_zero]; rfl, B0.out.1, B0.out.2⟩
  case round =>
    obtain ⟨k, hk, rfl, rfl, hb, hrow⟩ := hrel
    by_cases hlt : k < M + 1
    · obtain ⟨⟨cv, p1⟩, f1, hnext⟩ := CORE.out wr k hlt hb.out hrow.out
      rw [show M + 1 - 1 - k = M - k by omega] at p1 f1 hnext
      have C1 := Lib.hid (D1.out wr k hb.out (by omega))
      have C2 := Lib.hid (D2.out wr k hb.out (by omega))
      have ST := Lib.hid (STEP.out k)
      obtain ⟨g1, g2, g3⟩ := BD.out k
      generalize m / 256 ^ k % 256 = u at *
      generalize n / 256 ^ k % 256 = v at *
      generalize carN m n k = c at *
      have hi1 : (k : Int) < (M : Int) + 1 := by omega
      have ei : ((M : Int) + 1 - 1 - (k : Int)).toNat = M + 1 - 1 - k := by omega
      go_wp2_with fail
      refine C1.out.mono ?_
      rintro e w1 ⟨rfl, rfl⟩
      go_wp2_with fail
      refine C2.out.mono ?_
      rintro e w1 ⟨rfl, rfl⟩
      go_wp2_with fail
      go_roundw
      case rel => exact ⟨k + 1, by omega, by go_num, by rw [← ST.out]; rfl, Lib.hid (hb.out.setCell (Nat.le_refl _) _), hnext⟩
      case measure => simp [intOf]; omega
    · obtain rfl : k = M + 1 := by omega
      have F := Lib.hid (FIN.out wr hb.out hrow.out)
      go_wp2_with fail
      refine F.out.mono ?_
      rintro e w1 ⟨r, rfl, h1, h2⟩
      have H1 := Lib.hid h1
      have H2 := Lib.hid h2
      clear h1 h2
      go_wp2_with fail
      go_ret
      exact ⟨_, rfl, H1.out, H2.out⟩
set_option maxHeartbeats 1600000 in
theorem less_any (m n : Nat) (x y : Value) (w : World) (hx : By w w.heap.size x m) (hy : By w w.heap.size y n) (hm : m < lim) (hn : n < lim) (hnm : n ≤ m) :
    Calls Try.prog 38 #[x, y] w (ByPost (m - n) w) := by
  obtain ⟨xs, rx, sx⟩ := id hx
  obtain ⟨ys, ry, sy⟩ := id hy
  have lx := rx.length_le hm
  have ly := ry.length_le hn
  have vx : m < 256 ^ xs.length := by have := Rep.val_lt rx; simpa using this
  have vy : n < 256 ^ ys.length := by have := Rep.val_lt ry; simpa using this
  obtain ⟨a1, c1, rfl, hc1, _⟩ := id sx
  obtain ⟨a2, c2, rfl, hc2, _⟩ := id sy
  simp only [List.length_map] at hx hy hc1 hc2 ⊢
  obtain ⟨K1, hK1⟩ : ∃ K, K = xs.length := ⟨_, rfl⟩
  obtain ⟨K2, hK2⟩ : ∃ K, K = ys.length := ⟨_, rfl⟩
  rw [← hK1] at hx lx hc1 vx ⊢
  rw [← hK2] at hy ly hc2 vy ⊢
  have hS : m - n < 256 ^ K1 := by omega
  have HM := Lib.hid hm
  have HN := Lib.hid hn
  have HX := Lib.hid hx
  have HY := Lib.hid hy
  have HS := Lib.hid hS
  have MK := Lib.hid (run_mk8 K1 (by omega))
  have D1 : Hid (∀ wr i, Below w.heap.size w wr → i ≤ 4097 → Calls Try.prog 45 #[.slice a1 K1 c1, .int .i64 (i : Nat)] wr fun e w' => e = .returned (.int .i64 ((m / 256 ^ i % 256 : Nat) : Int)) ∧ wr = w') := Lib.hid (by
    intro wr i hb hi
    exact digit_any m _ i w.heap.size wr (HX.out.below hb) HM.out (by omega))
  have D2 : Hid (∀ wr i, Below w.heap.size w wr → i ≤ 4097 → Calls Try.prog 45 #[.slice a2 K2 c2, .int .i64 (i : Nat)] wr fun e w' => e = .returned (.int .i64 ((n / 256 ^ i % 256 : Nat) : Int)) ∧ wr = w') := Lib.hid (by
    intro wr i hb hi
    exact digit_any n _ i w.heap.size wr (HY.out.below hb) HN.out (by omega))
  clear hx hy rx ry sx sy hm hn hS hK1 hK2 vx vy
  have CORE : Hid (∀ (wr : World) (i : Nat), i < K1 → Below w.heap.size w wr → Blk wr w.heap.size 5 (filled K1 (m - n) i) → (∃ v, wr.cell? ⟨w.heap.size, K1 - 1 - i, none⟩ = some v) ∧ wr.frozen? ⟨w.heap.size, K1 - 1 - i, none⟩ = false ∧
      Hid (∀ d : Int, d = (((m / 256 ^ i % 256 + 256 - n / 256 ^ i % 256 - borN m n i) % 256 : Nat) : Int) → Blk (wr.setCell ⟨w.heap.size, K1 - 1 - i, none⟩ (.int .u8 d)) w.heap.size 5 (filled K1 (m - n) (i + 1)))) := Lib.hid (by
    intro wr i hi hb hk
    refine ⟨⟨_, hk.cell _ (by rw [filled_length _ _ _ (by omega)]; omega)⟩, hk.free _, Lib.hid ?_⟩
    rintro d rfl
    have h := hk.set (K1 - 1 - i) (bv ((m - n) / 256 ^ i % 256))
    rw [show K1 - 1 - i = (K1 - i) - 1 by omega, filled_set K1 (m - n) i (K1 - i) (by omega) (by omega)] at h
    rw [borN_digit _ _ _ hnm] at h
    rw [show K1 - 1 - i = (K1 - i) - 1 by omega]
    exact h)
  have STEP : Hid (∀ i, borN m n (i + 1) = if m / 256 ^ i % 256 < n / 256 ^ i % 256 + borN m n i then 1 else 0) := Lib.hid (fun i => borN_succ m n i)
  have BD : Hid (∀ i, m / 256 ^ i % 256 < 256 ∧ n / 256 ^ i % 256 < 256 ∧ borN m n i ≤ 1) := Lib.hid (fun i => ⟨Nat.mod_lt _ (by omega), Nat.mod_lt _ (by omega), borN_le m n i⟩)
  have FIN : Hid (∀ wr, Below w.heap.size w wr → Blk wr w.heap.size 5 (filled K1 (m - n) K1) → Calls Try.prog 43 #[.slice (some ⟨w.heap.size, 0, none⟩) K1 K1] wr (ByPost (m - n) w)) := Lib.hid (fun wr hb hk => cut_filled K1 (m - n) w.heap.size w wr hk HS.out (by omega) hb)
  have mk := MK.out
  have B0 : Hid (Below w.heap.size w (w.alloc (.cells (filled K1 0 0).toArray 5)) ∧ Blk (w.alloc (.cells (filled K1 0 0).toArray 5)) w.heap.size 5 (filled K1 (m - n) 0)) := Lib.hid ⟨(Below.refl _ _).alloc (Nat.le_refl _) _, by rw [← filled_zero_eq]; exact Blk.new _ _ _⟩
  clear hnm
  go_enter Try.func38, Try.ntmps38
  go_wp2_with fail
  go_loopw [6, 7, 8] (fun c i s wr => ∃ k : Nat, k ≤ K1 ∧ i = .int .i64 k ∧ c = .int .i64 ((borN m n k : Nat) : Int) ∧ Hid (Below w.heap.size w wr) ∧ Hid (Blk wr w.heap.size 5 (filled K1 (m - n) k))) (fun _ i _ _ => K1 - (intOf i).toNat)
  case atStart => exact ⟨0, by omega, rfl, by rw [borN_zero]; rfl, B0.out.1, B0.out.2⟩
  case round =>
    obtain ⟨k, hk, rfl, rfl, hb, hrow⟩ := hrel
    by_cases hlt : k < K1
    · obtain ⟨⟨cv, p1⟩, f1, hnext⟩ := CORE.out wr k hlt hb.out hrow.out
      have C1 := Lib.hid (D1.out wr k hb.out (by omega))
      have C2 := Lib.hid (D2.out wr k hb.out (by omega))
      have ST := Lib.hid (STEP.out k)
      obtain ⟨g1, g2, g3⟩ := BD.out k
      generalize m / 256 ^ k % 256 = u at *
      generalize n / 256 ^ k % 256 = v at *
      generalize borN m n k = c at *
      have hi1 : (k : Int) < (K1 : Int) := by omega
      have ei : ((K1 : Int) - 1 - (k : Int)).toNat = K1 - 1 - k := by omega
      have hi0 : (0 : Int) ≤ (K1 : Int) - 1 - (k : Int) := by omega
      have hi2 : (K1 : Int) - 1 - (k : Int) < (K1 : Int) := by omega
      by_cases hneg : (u : Int) - (v : Int) - (c : Int) < 0
      · have hd : Hid ((u : Int) - (v : Int) - (c : Int) + 256 = (((u + 256 - v - c) % 256 : Nat) : Int)) := Lib.hid (by omega)
        have hc : Hid (borN m n (k + 1) = 1) := Lib.hid (by rw [ST.out, if_pos (by omega)])
        have hw1 : 0 ≤ (u : Int) - (v : Int) - (c : Int) + 256 := by omega
        have hw2 : (u : Int) - (v : Int) - (c : Int) + 256 < 256 := by omega
        go_wp2_with fail
        refine C1.out.mono ?_
        rintro e w1 ⟨rfl, rfl⟩
        go_wp2_with fail
        refine C2.out.mono ?_
        rintro e w1 ⟨rfl, rfl⟩
        go_wp2_with fail
        go_roundw
        case rel => exact ⟨k + 1, by omega, by go_num, by rw [hc.out]; rfl, Lib.hid (hb.out.setCell (Nat.le_refl _) _), Lib.hid (hnext.out _ hd.out)⟩
        case measure => simp [intOf]; omega
      · have hd : Hid ((u : Int) - (v : Int) - (c : Int) = (((u + 256 - v - c) % 256 : Nat) : Int)) := Lib.hid (by omega)
        have hc : Hid (borN m n (k + 1) = 0) := Lib.hid (by rw [ST.out, if_neg (by omega)])
        have hw1 : 0 ≤ (u : Int) - (v : Int) - (c : Int) := by omega
        have hw2 : (u : Int) - (v : Int) - (c : Int) < 256 := by omega
        go_wp2_with fail
        refine C1.out.mono ?_
        rintro e w1 ⟨rfl, rfl⟩
        go_wp2_with fail
        refine C2.out.mono ?_
        rintro e w1 ⟨rfl, rfl⟩
        go_wp2_with fail
        go_roundw
        case rel => exact ⟨k + 1, by omega, by go_num, by rw [hc.out]; rfl, Lib.hid (hb.out.setCell (Nat.le_refl _) _), Lib.hid (hnext.out _ hd.out)⟩
        case measure => simp [intOf]; omega
    · obtain rfl : k = K1 := by omega
      have F := Lib.hid (FIN.out wr hb.out hrow.out)
      go_wp2_with fail
      refine F.out.mono ?_
      rintro e w1 ⟨r, rfl, h1, h2⟩
      have H1 := Lib.hid h1
      have H2 := Lib.hid h2
      clear h1 h2
      go_wp2_with fail
      go_ret
      exact ⟨_, rfl, H1.out, H2.out⟩
end Go.Proofs.Ythnmkbdeoahiaaa
