/- Plain arithmetic of rows of digits: one round of the loops that add, subtract and multiply them. No program in sight. -/
import Derived.Test.YtoggalnjjhcmkaaGreatDig
namespace Go.Proofs.YtoggalnjjhcmkaaGreat.Dig

theorem dgs_mod (B k m : Nat) : dgs B k (m % B ^ k) = dgs B k m := by
  induction k generalizing m with
  | zero => rfl
  | succ k ih =>
    simp only [dgs]
    have e1 : m % B ^ (k + 1) % B = m % B := by rw [Nat.pow_succ, Nat.mul_comm]; exact Nat.mod_mul_right_mod _ _ _
    have e2 : m % B ^ (k + 1) / B = m / B % B ^ k := by rw [Nat.pow_succ, Nat.mul_comm]; exact Nat.mod_mul_right_div_self _ _ _
    rw [e1, e2, ih]
theorem dgs_congr {B k m m' : Nat} (h : m % B ^ k = m' % B ^ k) : dgs B k m = dgs B k m' := by rw [← dgs_mod, h, dgs_mod]
theorem dgs_add_mul (B k m a : Nat) : dgs B k (m + B ^ k * a) = dgs B k m := dgs_congr (Nat.add_mul_mod_self_left _ _ _)
theorem nval_take_succ (B : Nat) (xs : List Nat) (k : Nat) (hk : k < xs.length) : nval B (xs.take (k + 1)) = nval B (xs.take k) + B ^ k * xs.getD k 0 := by
  rw [List.take_succ_eq_append_getElem hk, nval_append]
  simp [nval, List.getD_eq_getElem?_getD, List.getElem?_eq_getElem hk, Nat.min_eq_left (Nat.le_of_lt hk)]
/-- one more digit of a sum S' = S + B ^ k * a -/
theorem dgs_step (B k S a : Nat) (hB : 0 < B) : dgs B (k + 1) (S + B ^ k * a) = dgs B k S ++ [(S / B ^ k + a) % B] ∧ (S + B ^ k * a) / B ^ (k + 1) = (S / B ^ k + a) / B := by
  have hp : 0 < B ^ k := Nat.pow_pos hB
  constructor
  · rw [dgs_snoc, dgs_add_mul, Nat.add_mul_div_left _ _ hp]
  · rw [Nat.pow_succ, ← Nat.div_div_eq_div_mul, Nat.add_mul_div_left _ _ hp]
/-- a difference, one digit more: X, Y the numbers of k digits, x, y the next ones -/
theorem sub_step (B k X Y x y : Nat) (hB : 0 < B) (hX : X < B ^ k) (hY : Y < B ^ k) (hy : y < B) :
    dgs B (k + 1) (X + B ^ k * x + B ^ (k + 1) - (Y + B ^ k * y)) = dgs B k (X + B ^ k - Y) ++ [(x + B - y - (if X < Y then 1 else 0)) % B] ∧
    ((if X + B ^ k * x < Y + B ^ k * y then 1 else 0) = (if x < y + (if X < Y then 1 else 0) then 1 else (0 : Nat))) := by
  have hp : 0 < B ^ k := Nat.pow_pos hB
  by_cases h : X < Y
  · simp only [if_pos h]
    constructor
    · have e : X + B ^ k * x + B ^ (k + 1) - (Y + B ^ k * y) = (X + B ^ k - Y) + B ^ k * (x + B - y - 1) := by
        rw [Nat.pow_succ]
        have : B ^ k * (x + B - y - 1) + B ^ k * y + B ^ k = B ^ k * x + B ^ k * B := by
          rw [← Nat.mul_add, ← Nat.mul_succ, ← Nat.mul_add]; congr 1; omega
        omega
      rw [e, (dgs_step B k _ _ hB).1]
      congr 2
      rw [Nat.div_eq_of_lt (by omega), Nat.zero_add]
    · by_cases h2 : x < y + 1
      · rw [if_pos h2, if_pos]
        have : B ^ k * x ≤ B ^ k * y := Nat.mul_le_mul_left _ (by omega)
        omega
      · rw [if_neg h2, if_neg]
        have : B ^ k * (y + 1) ≤ B ^ k * x := Nat.mul_le_mul_left _ (by omega)
        rw [Nat.mul_add] at this; omega
  · simp only [if_neg h]
    constructor
    · have e : X + B ^ k * x + B ^ (k + 1) - (Y + B ^ k * y) = (X - Y) + B ^ k * (x + B - y) := by
        rw [Nat.pow_succ]
        have : B ^ k * (x + B - y) + B ^ k * y = B ^ k * x + B ^ k * B := by
          rw [← Nat.mul_add, ← Nat.mul_add]; congr 1; omega
        omega
      rw [e, (dgs_step B k _ _ hB).1]
      have e2 : X + B ^ k - Y = (X - Y) + B ^ k * 1 := by omega
      rw [e2, dgs_add_mul]
      congr 2
      rw [Nat.div_eq_of_lt (by omega), Nat.zero_add]; rfl
    · by_cases h2 : x < y
      · have a : X + B ^ k * x < Y + B ^ k * y := by
          have : B ^ k * (x + 1) ≤ B ^ k * y := Nat.mul_le_mul_left _ h2
          rw [Nat.mul_add] at this; omega
        rw [if_pos a, if_pos (by omega)]
      · have a : ¬ X + B ^ k * x < Y + B ^ k * y := by
          have : B ^ k * y ≤ B ^ k * x := Nat.mul_le_mul_left _ (by omega)
          omega
        rw [if_neg a, if_neg (by omega)]
theorem nval_take (B : Nat) (xs : List Nat) (h : ∀ x ∈ xs, x < B) (k : Nat) (hk : k ≤ xs.length) : nval B (xs.take k) = nval B xs % B ^ k := by
  have e : nval B xs = nval B (xs.take k) + B ^ k * nval B (xs.drop k) := by
    conv => lhs; rw [← List.take_append_drop k xs]
    rw [nval_append, List.length_take, Nat.min_eq_left hk]
  have hlt : nval B (xs.take k) < B ^ k := by
    have := nval_lt B (xs.take k) (fun x hx => h x (List.mem_of_mem_take hx))
    rwa [List.length_take, Nat.min_eq_left hk] at this
  rw [e, Nat.add_mul_mod_self_left, Nat.mod_eq_of_lt hlt]
/-- eight bytes out of the middle are a word of the number -/
theorem word_of_bytes (ms : List Nat) (h : ∀ x ∈ ms, x < 256) (k i : Nat) (hi : i + 8 * k = ms.length) (h8 : 8 ≤ i) : bval ((ms.drop (i - 8)).take 8) = bval ms / 18446744073709551616 ^ k % 18446744073709551616 := by
  have hr : ∀ x ∈ ms.reverse, x < 256 := fun x hx => h x (by simpa using hx)
  have e1 : ((ms.drop (i - 8)).take 8).reverse = (ms.reverse.drop (8 * k)).take 8 := by
    rw [List.reverse_take, List.reverse_drop, List.length_drop, List.drop_take]
    congr 1
    · omega
    · congr 1; omega
  unfold bval
  rw [e1, nval_take 256 _ (fun x hx => hr x (List.mem_of_mem_drop hx)) 8 (by simp; omega), ← nval_drop 256 (by omega) ms.reverse hr (8 * k) (by simp; omega), pow_words]
/-- the first bytes are what is above -/
theorem top_of_bytes (ms : List Nat) (h : ∀ x ∈ ms, x < 256) (k i : Nat) (hi : i + 8 * k = ms.length) : bval (ms.take i) = bval ms / 18446744073709551616 ^ k := by
  have hr : ∀ x ∈ ms.reverse, x < 256 := fun x hx => h x (by simpa using hx)
  have e1 : (ms.take i).reverse = ms.reverse.drop (8 * k) := by
    rw [List.reverse_take]; congr 1; omega
  unfold bval
  rw [e1, pow_words, nval_drop 256 (by omega) ms.reverse hr (8 * k) (by simp; omega)]
theorem bval_lt (ms : List Nat) (h : ∀ x ∈ ms, x < 256) : bval ms < 256 ^ ms.length := by
  have := nval_lt 256 ms.reverse (fun x hx => h x (by simpa using hx))
  rwa [List.length_reverse] at this
/-- one byte more, from the end of the first i bytes on -/
theorem byte_up (ms : List Nat) (h : ∀ x ∈ ms, x < 256) (i j : Nat) (hi : i ≤ ms.length) (hj : j < i) : bval (ms.take i) % 256 ^ (j + 1) = bval (ms.take i) % 256 ^ j + 256 ^ j * ms.getD (i - j - 1) 0 := by
  have hr : ∀ x ∈ (ms.take i).reverse, x < 256 := fun x hx => h x (List.mem_of_mem_take (by simpa using hx))
  have hl : (ms.take i).reverse.length = i := by simp; omega
  unfold bval
  rw [← nval_take 256 _ hr (j + 1) (by omega), ← nval_take 256 _ hr j (by omega), nval_take_succ 256 _ j (by omega)]
  congr 2
  simp only [List.getD_eq_getElem?_getD]
  rw [List.getElem?_reverse (by simp; omega), List.getElem?_take, if_pos (by simp; omega)]
  congr 2
  simp; omega
end Go.Proofs.YtoggalnjjhcmkaaGreat.Dig
