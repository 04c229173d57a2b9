/- spec.digit, sum, less: the reference's sum and difference of magnitudes. -/
import Derived.Test.YtggpaejlmfppoaaGreatCmp2
import Derived.Test.YtggpaejlmfppoaaGreatMNew
import Derived.Test.YtggpaejlmfppoaaGreatMTold
import Derived.Test.YtggpaejlmfppoaaGreatCopy
namespace Go.Proofs.YtggpaejlmfppoaaGreat
open Go.RowKit Dig
set_option linter.unusedVariables false
set_option linter.unusedSimpArgs false
set_option maxRecDepth 100000

/-! ### digits of sums and differences, by numbers alone -/
theorem rep_getD {B : Nat} (hB : 0 < B) {xs : List Nat} {m : Nat} (h : Rep B xs m) (i : Nat) : xs.getD i 0 = m / B ^ i % B := by
  rcases Nat.lt_or_ge i xs.length with hlt | hge
  · have h1 := nval_drop B hB xs h.lt i (by omega)
    rw [h.val] at h1
    rw [h1, List.drop_eq_getElem_cons hlt]
    simp only [nval]
    rw [Nat.add_mul_mod_self_left, List.getD_eq_getElem?_getD, List.getElem?_eq_getElem hlt]
    exact (Nat.mod_eq_of_lt (h.lt _ (List.getElem_mem hlt))).symm
  · rw [List.getD_eq_getElem?_getD, List.getElem?_eq_none hge]
    have h1 := h.val_lt
    have h2 : m < B ^ i := Nat.lt_of_lt_of_le h1 (Nat.pow_le_pow_right hB hge)
    rw [Nat.div_eq_of_lt h2]; simp
/-- what is carried into place i -/
def carN (m n i : Nat) : Nat := (m % 256 ^ i + n % 256 ^ i) / 256 ^ i
theorem carN_zero (m n : Nat) : carN m n 0 = 0 := by simp [carN, Nat.mod_one]
theorem carN_le (m n i : Nat) : carN m n i ≤ 1 := by
  unfold carN
  have hp : 0 < 256 ^ i := Nat.pow_pos (by omega)
  have h1 := Nat.mod_lt m hp
  have h2 := Nat.mod_lt n hp
  have : (m % 256 ^ i + n % 256 ^ i) / 256 ^ i < 2 := by rw [Nat.div_lt_iff_lt_mul hp]; omega
  omega
theorem carN_succ (m n i : Nat) : carN m n (i + 1) = (m / 256 ^ i % 256 + n / 256 ^ i % 256 + carN m n i) / 256 := by
  unfold carN
  have e1 : m % 256 ^ (i + 1) = m % 256 ^ i + 256 ^ i * (m / 256 ^ i % 256) := by rw [Nat.pow_succ, Nat.mod_mul]
  have e2 : n % 256 ^ (i + 1) = n % 256 ^ i + 256 ^ i * (n / 256 ^ i % 256) := by rw [Nat.pow_succ, Nat.mod_mul]
  have h := (dgs_step 256 i (m % 256 ^ i + n % 256 ^ i) (m / 256 ^ i % 256 + n / 256 ^ i % 256) (by omega)).2
  rw [Nat.mul_add] at h
  rw [e1, e2, show m % 256 ^ i + 256 ^ i * (m / 256 ^ i % 256) + (n % 256 ^ i + 256 ^ i * (n / 256 ^ i % 256)) = m % 256 ^ i + n % 256 ^ i + (256 ^ i * (m / 256 ^ i % 256) + 256 ^ i * (n / 256 ^ i % 256)) by omega, h]
  congr 1; omega
theorem carN_digit (m n i : Nat) : (m + n) / 256 ^ i % 256 = (m / 256 ^ i % 256 + n / 256 ^ i % 256 + carN m n i) % 256 := by
  have hp : 0 < 256 ^ i := Nat.pow_pos (by omega)
  have e : (m + n) / 256 ^ i = carN m n i + (m / 256 ^ i + n / 256 ^ i) := by
    unfold carN
    have h1 := Nat.div_add_mod m (256 ^ i)
    have h2 := Nat.div_add_mod n (256 ^ i)
    have e1 : m + n = (m % 256 ^ i + n % 256 ^ i) + 256 ^ i * (m / 256 ^ i + n / 256 ^ i) := by rw [Nat.mul_add]; omega
    conv => lhs; rw [e1]
    rw [Nat.add_mul_div_left _ _ hp]
  rw [e]; omega
/-- what is borrowed at place i -/
def borN (m n i : Nat) : Nat := if m % 256 ^ i < n % 256 ^ i then 1 else 0
theorem borN_zero (m n : Nat) : borN m n 0 = 0 := by simp [borN, Nat.mod_one]
theorem borN_le (m n i : Nat) : borN m n i ≤ 1 := by unfold borN; split <;> omega
theorem borN_succ (m n i : Nat) : borN m n (i + 1) = if m / 256 ^ i % 256 < n / 256 ^ i % 256 + borN m n i then 1 else 0 := by
  unfold borN
  have hp : 0 < 256 ^ i := Nat.pow_pos (by omega)
  have e1 : m % 256 ^ (i + 1) = m % 256 ^ i + 256 ^ i * (m / 256 ^ i % 256) := by rw [Nat.pow_succ, Nat.mod_mul]
  have e2 : n % 256 ^ (i + 1) = n % 256 ^ i + 256 ^ i * (n / 256 ^ i % 256) := by rw [Nat.pow_succ, Nat.mod_mul]
  rw [e1, e2]
  exact (sub_step 256 i (m % 256 ^ i) (n % 256 ^ i) (m / 256 ^ i % 256) (n / 256 ^ i % 256) (by omega) (Nat.mod_lt _ hp) (Nat.mod_lt _ hp) (Nat.mod_lt _ (by omega))).2
theorem borN_digit (m n i : Nat) (h : n ≤ m) : (m - n) / 256 ^ i % 256 = (m / 256 ^ i % 256 + 256 - n / 256 ^ i % 256 - borN m n i) % 256 := by
  have hp : 0 < 256 ^ i := Nat.pow_pos (by omega)
  have h1 := Nat.div_add_mod m (256 ^ i)
  have h2 := Nat.div_add_mod n (256 ^ i)
  have h3 := Nat.mod_lt m hp
  have h4 := Nat.mod_lt n hp
  have hle : n / 256 ^ i ≤ m / 256 ^ i := Nat.div_le_div_right h
  unfold borN
  generalize m / 256 ^ i = R at *
  generalize n / 256 ^ i = T at *
  generalize m % 256 ^ i = X at *
  generalize n % 256 ^ i = Y at *
  generalize 256 ^ i = P at *
  by_cases hlt : X < Y
  · simp only [if_pos hlt]
    have hRT : T < R := by
      rcases Nat.lt_or_ge T R with hh | hh
      · exact hh
      · have : T = R := by omega
        subst this; omega
    have e : m - n = (X + P - Y) + P * (R - T - 1) := by
      have : P * R = P * (R - T - 1) + P * T + P := by rw [← Nat.mul_add, ← Nat.mul_succ]; congr 1; omega
      omega
    rw [e, Nat.add_mul_div_left _ _ hp, Nat.div_eq_of_lt (by omega)]; omega
  · simp only [if_neg hlt]
    have e : m - n = (X - Y) + P * (R - T) := by
      have : P * R = P * (R - T) + P * T := by rw [← Nat.mul_add]; congr 1; omega
      omega
    rw [e, Nat.add_mul_div_left _ _ hp, Nat.div_eq_of_lt (by omega)]; omega

set_option maxHeartbeats 400000 in
theorem digit_any (m : Nat) (v : Value) (i B : Nat) (w : World) (h : By w B v m) (hm : m < lim) (hi : i ≤ 1048576) :
    Calls Tryz.prog 85 #[v, .int .i64 i] w fun e w' => e = .returned (.int .i64 ((m / 256 ^ i % 256 : Nat) : Int)) ∧ w = w' := by
  obtain ⟨xs, hr, hs⟩ := h
  have hl := hr.length_le hm
  have hd := rep_getD (by omega) hr i
  rw [← hd]
  obtain ⟨a, c, rfl, hc, hrd⟩ := hs
  simp only [List.length_map, ne_eq, List.map_eq_nil_iff] at hc hrd ⊢
  by_cases hlt : i < xs.length
  · obtain ⟨b, o, rfl, hb, hrd⟩ := hrd (by intro h; subst h; simp at hlt)
    have q := hrd (xs.length - 1 - i) (by simp; omega)
    rw [getD_map_bv xs _ (by omega)] at q
    have e : xs.reverse.getD i 0 = xs.getD (xs.length - 1 - i) 0 := by
      rw [List.getD_eq_getElem?_getD, List.getD_eq_getElem?_getD, List.getElem?_reverse hlt]
    rw [e]
    have hx : xs.getD (xs.length - 1 - i) 0 < 256 := Bytes.lt hr _ (by rw [List.getD_eq_getElem?_getD, List.getElem?_eq_getElem (by omega)]; simp)
    obtain ⟨K, hK⟩ : ∃ K, K = xs.length := ⟨_, rfl⟩
    rw [← hK] at q hx hc hlt hl ⊢
    generalize xs.getD (K - 1 - i) 0 = x at *
    have ei : ((K : Int) - 1 - (i : Int)).toNat = K - 1 - i := by omega
    have hi0 : (0 : Int) ≤ (K : Int) - 1 - (i : Int) := by omega
    have hi1 : (K : Int) - 1 - (i : Int) < (K : Int) := by omega
    have hge : ¬ (K ≤ i) := by omega
    clear hrd hr hd e hK
    go_enter Tryz.func85, Tryz.ntmps85
    go_wp2_with fail
    go_ret
    exact ⟨rfl, rfl⟩
  · have e : xs.reverse.getD i 0 = 0 := by rw [List.getD_eq_getElem?_getD, List.getElem?_eq_none (by simp; omega)]; rfl
    rw [e]
    obtain ⟨K, hK⟩ : ∃ K, K = xs.length := ⟨_, rfl⟩
    rw [← hK] at hc hlt ⊢
    clear hrd hr hd e hK
    have hge : K ≤ i := by omega
    go_enter Tryz.func85, Tryz.ntmps85
    go_wp2_with fail
    go_ret
    exact ⟨rfl, rfl⟩

theorem By.keepQ {w w1 : World} {B : Nat} {v : Value} {m : Nat} (h : By w B v m) (hb : Below B w w1) : By w1 B v m := h.below hb
/-- a row of bytes, all laid, cut -/
theorem cut_filled (N S b : Nat) (w0 w : World) (hk : Blk w b 5 (filled N S N)) (hS : S < 256 ^ N) (hN : N ≤ 1048576) (hb : Below w0.heap.size w0 w) :
    Calls Tryz.prog 55 #[.slice (some ⟨b, 0, none⟩) N N] w (ByPost S w0) := by
  rw [filled_all] at hk
  have hl : ((dgs 256 N S).reverse).length = N := by simp [dgs_length]
  have hsl : Sl w w.heap.size (.slice (some ⟨b, 0, none⟩) N N) (((dgs 256 N S).reverse).map bv) := hk.sl 0 _ N N w.heap.size (by simpa using hl) (by simp [dgs_length]) (fun i _ => by rw [Nat.zero_add]) (Nat.le_refl _) hk.lt
  refine (cut_any _ _ w (fun x hx => dgs_lt 256 (by omega) N S x (by simpa using hx)) (by omega) hsl).mono ?_
  rintro e w' ⟨v, ms, rfl, hB, _, hs, hbel⟩
  have e1 : bval ((dgs 256 N S).reverse) = S := by unfold bval; rw [List.reverse_reverse, dgs_val_of _ _ _ hS]
  rw [e1] at hB
  exact ⟨v, rfl, ⟨ms, hB, hs⟩, hb.trans (hbel.mono hb.size)⟩
theorem run_mk8 (N : Nat) (hN : N ≤ 1048576) (w : World) : (Instr.makeSlice 24 (.int .i64 (N : Int)) (.int .i64 (N : Int))).run Tryz.prog w = .ok (.slice (some ⟨w.heap.size, 0, none⟩) N N) (w.alloc (.cells (filled N 0 0).toArray 5)) := by
  rw [filled_zero]
  exact run_mk (P := Tryz.prog) 24 5 (.int .u8 0) 1 Tryz.underlying24 info8 rfl N N (Nat.le_refl _) (by omega) (by omega) w
theorem filled_zero_eq (N S : Nat) : filled N 0 0 = filled N S 0 := by rw [filled_zero, filled_zero]

end Go.Proofs.YtggpaejlmfppoaaGreat
