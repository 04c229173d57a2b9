/- Digits read from the left, chunk by chunk; digits written. Plain arithmetic, no program in sight. Digits as signs, in either case of letters; numbers of packed words. Plain, no program in sight. A row of words, shifted down by less than a word: each word out of two. Plain arithmetic, no program in sight. -/
import Derived.Test.YtbfgjaammmpcdaaGreatDoorMBase
namespace Go.Proofs.YtbfgjaammmpcdaaGreatDoor.Dig
set_option linter.unusedVariables false

/-- the number that digits stand for, the most significant one ahead -/
def hval (B : Nat) (ds : List Nat) : Nat := ds.foldl (fun a d => a * B + d) 0
theorem hval_nil (B : Nat) : hval B [] = 0 := rfl
theorem hval_snoc (B : Nat) (ds : List Nat) (d : Nat) : hval B (ds ++ [d]) = hval B ds * B + d := by simp [hval, List.foldl_append]
theorem hval_append (B : Nat) (xs : List Nat) : ∀ ys, hval B (xs ++ ys) = hval B xs * B ^ ys.length + hval B ys := by
  intro ys
  induction hn : ys.length generalizing ys with
  | zero => rw [List.eq_nil_of_length_eq_zero hn]; simp [hval_nil]
  | succ n ih =>
    have hne : ys ≠ [] := by intro h; rw [h] at hn; simp at hn
    obtain ⟨zs, z, rfl⟩ : ∃ zs z, ys = zs ++ [z] := ⟨ys.dropLast, ys.getLast hne, (List.dropLast_concat_getLast hne).symm⟩
    have hz : zs.length = n := by simpa using hn
    rw [← List.append_assoc, hval_snoc, hval_snoc, ih zs hz, Nat.pow_succ]
    grind
theorem hval_reverse (B : Nat) (xs : List Nat) : hval B xs.reverse = nval B xs := by
  induction xs with
  | nil => rfl
  | cons x xs ih => rw [List.reverse_cons, hval_snoc, ih]; simp only [nval]; rw [Nat.mul_comm, Nat.add_comm]
theorem hval_eq (B : Nat) (xs : List Nat) : hval B xs = nval B xs.reverse := by rw [← hval_reverse, List.reverse_reverse]
theorem hval_lt {B : Nat} {xs : List Nat} (h : ∀ x ∈ xs, x < B) : hval B xs < B ^ xs.length := by
  rw [hval_eq]
  have := nval_lt B xs.reverse (fun x hx => h x (by simpa using hx))
  simpa using this
theorem hval_take_succ (B : Nat) {xs : List Nat} {k d : Nat} (h : xs[k]? = some d) : hval B (xs.take (k + 1)) = hval B (xs.take k) * B + d := by
  have e : xs.take (k + 1) = xs.take k ++ [d] := by rw [List.take_add_one, h]; rfl
  rw [e, hval_snoc]

/-! ### chunks of n digits -/
/-- the chunks that are whole -/
def zOf (B n k : Nat) (ds : List Nat) : Nat := hval B (ds.take (k - k % n))
/-- what stands behind them -/
def dOf (B n k : Nat) (ds : List Nat) : Nat := hval B ((ds.take k).drop (k - k % n))
theorem chunk_all (B n k : Nat) (ds : List Nat) (hk : k ≤ ds.length) (hn : 0 < n) : hval B (ds.take k) = zOf B n k ds * B ^ (k % n) + dOf B n k ds := by
  have hm := Nat.mod_le k n
  have e : ds.take k = ds.take (k - k % n) ++ (ds.take k).drop (k - k % n) := by
    have := List.take_append_drop (k - k % n) (ds.take k)
    rw [List.take_take, Nat.min_eq_left (by omega)] at this
    exact this.symm
  have hl : ((ds.take k).drop (k - k % n)).length = k % n := by simp; omega
  unfold zOf dOf
  conv => lhs; rw [e]
  rw [hval_append, hl]
theorem dOf_lt (B n k : Nat) (ds : List Nat) (hk : k ≤ ds.length) (hd : ∀ d ∈ ds, d < B) : dOf B n k ds < B ^ (k % n) := by
  have hm := Nat.mod_le k n
  have hl : ((ds.take k).drop (k - k % n)).length = k % n := by simp; omega
  have := hval_lt (B := B) (xs := (ds.take k).drop (k - k % n)) (fun x hx => hd x (List.mem_of_mem_take (List.mem_of_mem_drop hx)))
  rw [hl] at this
  exact this
theorem chunk_go (B n k d : Nat) (ds : List Nat) (hn : 0 < n) (h : ds[k]? = some d) (hi : k % n + 1 < n) : (k + 1) % n = k % n + 1 ∧ zOf B n (k + 1) ds = zOf B n k ds ∧ dOf B n (k + 1) ds = dOf B n k ds * B + d := by
  have hkl : k < ds.length := (List.getElem?_eq_some_iff.1 h).1
  have hm := Nat.mod_le k n
  have e1 : (k + 1) % n = k % n + 1 := by rw [Nat.add_mod, Nat.mod_eq_of_lt (show 1 < n by omega), Nat.mod_eq_of_lt hi]
  have e2 : k + 1 - (k % n + 1) = k - k % n := by omega
  refine ⟨e1, by unfold zOf; rw [e1, e2], ?_⟩
  unfold dOf
  rw [e1, e2]
  have e : ds.take (k + 1) = ds.take k ++ [d] := by rw [List.take_add_one, h]; rfl
  rw [e, List.drop_append_of_le_length (by simp; omega), hval_snoc]
theorem chunk_full (B n k d : Nat) (ds : List Nat) (hn : 0 < n) (h : ds[k]? = some d) (hi : k % n + 1 = n) : (k + 1) % n = 0 ∧ zOf B n (k + 1) ds = zOf B n k ds * B ^ n + (dOf B n k ds * B + d) ∧ dOf B n (k + 1) ds = 0 := by
  have hkl : k < ds.length := (List.getElem?_eq_some_iff.1 h).1
  have e1 : (k + 1) % n = 0 := by
    have := Nat.div_add_mod k n
    have e : k + 1 = n * (k / n + 1) := by rw [Nat.mul_add]; omega
    rw [e, Nat.mul_mod_right]
  refine ⟨e1, ?_, ?_⟩
  · have hz : zOf B n (k + 1) ds = hval B (ds.take (k + 1)) := by unfold zOf; rw [e1, Nat.sub_zero]
    rw [hz, hval_take_succ B h, chunk_all B n k ds (by omega) hn]
    have e : B ^ n = B ^ (k % n) * B := by rw [← Nat.pow_succ, Nat.succ_eq_add_one, hi]
    rw [e]
    grind
  · unfold dOf
    rw [e1, Nat.sub_zero, List.drop_of_length_le (by rw [List.length_take]; omega)]
    rfl
theorem zOf_zero (B n : Nat) (ds : List Nat) : zOf B n 0 ds = 0 := by simp [zOf, hval]
theorem dOf_zero (B n : Nat) (ds : List Nat) : dOf B n 0 ds = 0 := by simp [dOf, hval]
theorem zOf_le (B n k : Nat) (ds : List Nat) (hk : k ≤ ds.length) (hn : 0 < n) (hB : 0 < B) : zOf B n k ds ≤ hval B (ds.take k) := by
  rw [chunk_all B n k ds hk hn]
  exact Nat.le_trans (Nat.le_mul_of_pos_right _ (Nat.pow_pos hB)) (Nat.le_add_right _ _)
theorem hval_take_le {B : Nat} (hB : 0 < B) (ds : List Nat) (k : Nat) : hval B (ds.take k) ≤ hval B ds := by
  conv => rhs; rw [← List.take_append_drop k ds]
  rw [hval_append]
  exact Nat.le_trans (Nat.le_mul_of_pos_right _ (Nat.pow_pos hB)) (Nat.le_add_right _ _)

/-! ### powers by squaring, modulo M -/
theorem pow_odd (M p x n : Nat) (h : n % 2 = 1) : p * x ^ n % M = (p * x % M) * (x * x % M) ^ (n / 2) % M := by
  have e : x ^ n = x * (x * x) ^ (n / 2) := by
    conv => lhs; rw [← Nat.div_add_mod n 2, h, Nat.pow_succ, Nat.pow_mul, Nat.mul_comm]
    rw [Nat.pow_two]
  have e2 : (x * x % M) ^ (n / 2) % M = (x * x) ^ (n / 2) % M := (Nat.pow_mod (x * x) (n / 2) M).symm
  rw [e, ← Nat.mul_assoc, Nat.mul_mod, ← e2, Nat.mul_mod (p * x % M) ((x * x % M) ^ (n / 2)), Nat.mod_mod]
theorem pow_even (M p x n : Nat) (h : n % 2 = 0) : p * x ^ n % M = p * (x * x % M) ^ (n / 2) % M := by
  have e : x ^ n = (x * x) ^ (n / 2) := by
    conv => lhs; rw [← Nat.div_add_mod n 2, h, Nat.add_zero, Nat.pow_mul]
    rw [Nat.pow_two]
  have e2 : (x * x % M) ^ (n / 2) % M = (x * x) ^ (n / 2) % M := (Nat.pow_mod (x * x) (n / 2) M).symm
  rw [e, Nat.mul_mod, ← e2, ← Nat.mul_mod]

/-! ### digits written by dividing -/
/-- the digits of a number in a base, the lowest first -/
def ldg (B : Nat) : Nat → Nat → List Nat
  | 0, _ => []
  | f + 1, v => if v = 0 then [] else v % B :: ldg B f (v / B)
theorem ldg_val (B : Nat) (hB : 1 < B) : ∀ (f v : Nat), v ≤ f → nval B (ldg B f v) = v
  | 0, v, h => by have : v = 0 := by omega
                  subst this; rfl
  | f + 1, v, h => by
    unfold ldg
    split
    · rename_i h0; subst h0; rfl
    · rename_i h0
      simp only [nval]
      rw [ldg_val B hB f (v / B) (by have := Nat.div_lt_self (show 0 < v by omega) hB; omega)]
      have := Nat.div_add_mod v B
      omega
theorem ldg_lt (B : Nat) (hB : 1 < B) : ∀ (f v : Nat), ∀ d ∈ ldg B f v, d < B
  | 0, v, d, h => by simp [ldg] at h
  | f + 1, v, d, h => by
    unfold ldg at h
    split at h
    · simp at h
    · rcases List.mem_cons.1 h with h | h
      · rw [h]; exact Nat.mod_lt _ (by omega)
      · exact ldg_lt B hB f _ d h
theorem ldg_nrm (B : Nat) (hB : 1 < B) : ∀ (f v : Nat), v ≤ f → Nrm (ldg B f v)
  | 0, v, h => by simp [ldg, Nrm]
  | f + 1, v, h => by
    unfold ldg
    split
    · simp [Nrm]
    · rename_i h0
      have hle : v / B ≤ f := by have := Nat.div_lt_self (show 0 < v by omega) hB; omega
      have ih := ldg_nrm B hB f (v / B) hle
      unfold Nrm at ih ⊢
      by_cases hq : v / B = 0
      · have hv : v < B := by
          rcases Nat.lt_or_ge v B with h | h
          · exact h
          · have := Nat.div_pos h (by omega); omega
        have e : ldg B f (v / B) = [] := by rw [hq]; cases f <;> simp [ldg]
        rw [e, Nat.mod_eq_of_lt hv]
        simp; omega
      · have hne : ldg B f (v / B) ≠ [] := by
          intro e
          have := ldg_val B hB f (v / B) hle
          rw [e] at this
          simp [nval] at this
          omega
        rw [List.getLast?_cons_of_ne_nil hne]
        exact ih
/-- one round of the long division of bytes: the quotient's byte and what is left -/
theorem div_round (B L m Q : Nat) (hB : 0 < B) (hL : L < B) (hm : m < 256) : (L * 256 + m) / B < 256 ∧ (L * 256 + m) % B < B := by
  refine ⟨?_, Nat.mod_lt _ hB⟩
  rw [Nat.div_lt_iff_lt_mul hB]
  have : (L + 1) * 256 ≤ B * 256 := Nat.mul_le_mul_right _ hL
  rw [Nat.add_mul] at this
  rw [Nat.mul_comm 256]
  omega
/-- the quotient of a longer row: v the number so far, its quotient q, its rest L -/
theorem div_next (B v m : Nat) (hB : 0 < B) : (v * 256 + m) / B = v / B * 256 + (v % B * 256 + m) / B ∧ (v * 256 + m) % B = (v % B * 256 + m) % B := by
  have e := Nat.div_add_mod v B
  have h1 : v * 256 + m = B * (v / B * 256) + (v % B * 256 + m) := by
    conv => lhs; rw [← e]
    rw [Nat.add_mul, Nat.mul_assoc, Nat.add_assoc]
  rw [h1]
  exact ⟨Nat.mul_add_div hB _ _, Nat.mul_add_mod _ _ _⟩
end Go.Proofs.YtbfgjaammmpcdaaGreatDoor.Dig

namespace Go.Proofs.YtbfgjaammmpcdaaGreatDoor.Dig
set_option linter.unusedVariables false

/-- a digit's sign, as the reference writes it -/
def sgnOf (d : Nat) : Nat := if d < 10 then 48 + d else 87 + d
/-- c is a sign of the digit d -/
def IsDig (c d : Nat) : Prop := d < 36 ∧ (c = sgnOf d ∨ (10 ≤ d ∧ c = 55 + d))
theorem IsDig.of {d : Nat} (h : d < 36) : IsDig (sgnOf d) d := ⟨h, .inl rfl⟩
theorem IsDig.up {d : Nat} (h : d < 36) : IsDig (if 97 ≤ sgnOf d then sgnOf d - 32 else sgnOf d) d := by
  refine ⟨h, ?_⟩
  unfold sgnOf
  by_cases h1 : d < 10
  · left
    rw [if_pos h1, if_neg (by omega)]
  · right
    rw [if_neg h1, if_pos (by omega)]
    omega
theorem IsDig.lt {c d : Nat} (h : IsDig c d) : c < 128 := by
  obtain ⟨h1, h2 | ⟨h2, h3⟩⟩ := h
  · rw [h2]; unfold sgnOf; split <;> omega
  · omega
/-- which of three spans the sign lies in -/
theorem IsDig.span {c d : Nat} (h : IsDig c d) : (48 ≤ c ∧ c ≤ 57 ∧ d = c - 48) ∨ (97 ≤ c ∧ c ≤ 122 ∧ d = c - 97 + 10) ∨ (65 ≤ c ∧ c ≤ 90 ∧ d = c - 65 + 10) := by
  obtain ⟨h1, h2 | ⟨h2, h3⟩⟩ := h
  · rw [h2]; unfold sgnOf; split
    · left; omega
    · right; left; omega
  · right; right; omega
/-- no sign, no point, no underscore -/
theorem IsDig.not {c d : Nat} (h : IsDig c d) : c ≠ 43 ∧ c ≠ 45 ∧ c ≠ 46 ∧ c ≠ 95 := by
  rcases h.span with h | h | h <;> omega
theorem IsDig.zero {c d : Nat} (h : IsDig c d) : c = 48 ↔ d = 0 := by
  rcases h.span with h | h | h <;> omega
/-- a number, shifted up for the digits that its last word lacks, and down again -/
theorem pack_fin (b n i z d : Nat) (hi : i ≤ n) : z * b ^ n + d * b ^ (n - i) = (z * b ^ i + d) * b ^ (n - i) := by
  have e : b ^ n = b ^ i * b ^ (n - i) := by rw [← Nat.pow_add]; congr 1; omega
  rw [e, Nat.add_mul, Nat.mul_assoc]
theorem pack_shift (b n i z d : Nat) (hi : i ≤ n) (hb : 0 < b) : (z * b ^ n + d * b ^ (n - i)) / b ^ (n - i) = z * b ^ i + d := by
  rw [pack_fin b n i z d hi, Nat.mul_div_cancel _ (Nat.pow_pos hb)]
/-- the longest power that a word holds -/
theorem pow_more {M b p : Nat} (hb : 0 < b) (h : p ≤ M / b) : p * b ≤ M := by
  have := Nat.mul_le_mul_right b h
  exact Nat.le_trans this (Nat.div_mul_le_self M b)
end Go.Proofs.YtbfgjaammmpcdaaGreatDoor.Dig

namespace Go.Proofs.YtbfgjaammmpcdaaGreatDoor.Dig
set_option linter.unusedVariables false

theorem two64 (s : Nat) (hs : s ≤ 64) : 18446744073709551616 = 2 ^ s * 2 ^ (64 - s) := by
  rw [← Nat.pow_add, show s + (64 - s) = 64 by omega]
/-- one word of a number that is shifted down -/
theorem shr_word (s x y R : Nat) (hs : s ≤ 64) (hx : x < 18446744073709551616) : (x + 18446744073709551616 * (y + 18446744073709551616 * R)) / 2 ^ s % 18446744073709551616 = x / 2 ^ s + y * 2 ^ (64 - s) % 18446744073709551616 := by
  have e := two64 s hs
  have hp : 0 < 2 ^ s := Nat.pow_pos (by omega)
  have hq : 0 < 2 ^ (64 - s) := Nat.pow_pos (by omega)
  generalize 2 ^ (64 - s) = Q at *
  generalize 2 ^ s = P at *
  have e1 : x + 18446744073709551616 * (y + 18446744073709551616 * R) = x + P * (Q * (y + P * (Q * R))) := by
    rw [show 18446744073709551616 * R = P * (Q * R) by rw [e, Nat.mul_assoc], show ∀ z, 18446744073709551616 * z = P * (Q * z) from fun z => by rw [e, Nat.mul_assoc]]
  rw [e1, Nat.add_mul_div_left _ _ hp]
  have hxq : x / P < Q := by rw [Nat.div_lt_iff_lt_mul hp, Nat.mul_comm, ← e]; exact hx
  have e2 : (x / P + Q * (y + P * (Q * R))) % (P * Q) = x / P + Q * ((y + P * (Q * R)) % P) := by
    rw [Nat.mul_comm P Q, Nat.mod_mul]
    rw [Nat.add_mul_mod_self_left, Nat.mod_eq_of_lt hxq, Nat.add_mul_div_left _ _ hq, Nat.div_eq_of_lt hxq, Nat.zero_add]
  rw [e, e2, Nat.add_mul_mod_self_left, Nat.mul_comm y Q, Nat.mul_comm P Q, Nat.mul_mod_mul_left]
theorem shr_digit (xs : List Nat) (s i : Nat) (hs : s ≤ 64) (h : ∀ x ∈ xs, x < 18446744073709551616) (hi : i < xs.length) :
    nval 18446744073709551616 xs / 2 ^ s / 18446744073709551616 ^ i % 18446744073709551616 = xs.getD i 0 / 2 ^ s + xs.getD (i + 1) 0 * 2 ^ (64 - s) % 18446744073709551616 := by
  rw [Nat.div_div_eq_div_mul, Nat.mul_comm, ← Nat.div_div_eq_div_mul, nval_drop 18446744073709551616 (by omega) xs h i (by omega)]
  have e : xs.drop i = xs.getD i 0 :: xs.drop (i + 1) := by
    rw [List.drop_eq_getElem_cons hi, List.getD_eq_getElem?_getD, List.getElem?_eq_getElem hi]; rfl
  have hx : xs.getD i 0 < 18446744073709551616 := h _ (by rw [List.getD_eq_getElem?_getD, List.getElem?_eq_getElem hi]; simp)
  rw [e]
  by_cases hn : i + 1 < xs.length
  · have e2 : xs.drop (i + 1) = xs.getD (i + 1) 0 :: xs.drop (i + 2) := by
      rw [List.drop_eq_getElem_cons hn, List.getD_eq_getElem?_getD, List.getElem?_eq_getElem hn]; rfl
    rw [e2]
    simp only [nval]
    exact shr_word s _ _ _ hs hx
  · have e2 : xs.drop (i + 1) = [] := List.drop_of_length_le (by omega)
    have e3 : xs.getD (i + 1) 0 = 0 := by rw [List.getD_eq_getElem?_getD, List.getElem?_eq_none (by omega)]; rfl
    rw [e2, e3]
    simp only [nval]
    have := shr_word s (xs.getD i 0) 0 0 hs hx
    simpa using this
theorem shr_snoc (xs : List Nat) (s i : Nat) (hs : s ≤ 64) (h : ∀ x ∈ xs, x < 18446744073709551616) (hi : i < xs.length) :
    dgs 18446744073709551616 (i + 1) (nval 18446744073709551616 xs / 2 ^ s) = dgs 18446744073709551616 i (nval 18446744073709551616 xs / 2 ^ s) ++ [xs.getD i 0 / 2 ^ s + xs.getD (i + 1) 0 * 2 ^ (64 - s) % 18446744073709551616] := by
  rw [dgs_snoc, shr_digit xs s i hs h hi]
/-- the two parts of a word do not meet -/
theorem shr_or (s x y : Nat) (hs : s ≤ 64) (hx : x < 18446744073709551616) : x / 2 ^ s ||| y * 2 ^ (64 - s) % 18446744073709551616 = x / 2 ^ s + y * 2 ^ (64 - s) % 18446744073709551616 := by
  have e := two64 s hs
  have hp : 0 < 2 ^ s := Nat.pow_pos (by omega)
  have hxq : x / 2 ^ s < 2 ^ (64 - s) := by rw [Nat.div_lt_iff_lt_mul hp, Nat.mul_comm, ← e]; exact hx
  have e2 : y * 2 ^ (64 - s) % 18446744073709551616 = 2 ^ (64 - s) * (y % 2 ^ s) := by
    conv => lhs; rw [e]
    rw [Nat.mul_comm y, Nat.mul_comm (2 ^ s), Nat.mul_mod_mul_left]
  rw [e2, Nat.or_comm, Nat.add_comm, Nat.two_pow_add_eq_or_of_lt hxq]
/-- a row of words, shifted up: each word out of two -/
theorem shl_word (s x y : Nat) (hs : s ≤ 64) (hy : y < 18446744073709551616) : x * 2 ^ s % 18446744073709551616 ||| y / 2 ^ (64 - s) = x * 2 ^ s % 18446744073709551616 + y / 2 ^ (64 - s) := by
  have e := two64 s hs
  have hp : 0 < 2 ^ (64 - s) := Nat.pow_pos (by omega)
  have hyq : y / 2 ^ (64 - s) < 2 ^ s := by rw [Nat.div_lt_iff_lt_mul hp, ← e]; exact hy
  have e2 : x * 2 ^ s % 18446744073709551616 = 2 ^ s * (x % 2 ^ (64 - s)) := by
    conv => lhs; rw [e]
    rw [Nat.mul_comm x, Nat.mul_mod_mul_left]
  rw [e2, Nat.two_pow_add_eq_or_of_lt hyq]
end Go.Proofs.YtbfgjaammmpcdaaGreatDoor.Dig
