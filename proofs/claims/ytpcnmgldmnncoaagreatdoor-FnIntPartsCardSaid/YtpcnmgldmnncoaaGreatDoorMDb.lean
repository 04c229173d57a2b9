/- Plain arithmetic of one round of Knuth's division over words. No program in sight. Plain laws of rows at the end of one round of Knuth's division. No program in sight. -/
import Derived.Test.YtpcnmgldmnncoaaGreatDoorMMath
import Derived.Test.YtpcnmgldmnncoaaGreatDoorMDivRow
set_option linter.unusedVariables false
set_option linter.unusedSimpArgs false
namespace Go.Proofs.YtpcnmgldmnncoaaGreatDoor
open Go.RowKit Dig

/-- the dividend when the words from place k on are reduced -/
def yk (X V k : Nat) : Nat := X % 18446744073709551616 ^ k + 18446744073709551616 ^ k * (X / 18446744073709551616 ^ k % V)
/-- the dividend of round j -/
def ur (X V j : Nat) : Nat := X / 18446744073709551616 ^ j % 18446744073709551616 + 18446744073709551616 * (X / 18446744073709551616 ^ (j + 1) % V)
theorem yk_succ (X V j : Nat) : yk X V (j + 1) = X % 18446744073709551616 ^ j + 18446744073709551616 ^ j * ur X V j := by
  unfold yk ur
  rw [Nat.mod_pow_succ, Nat.mul_add, Nat.pow_succ, Nat.mul_assoc]
  omega
theorem ur_div (X V j : Nat) (hV : 0 < V) : X / 18446744073709551616 ^ j / V = ur X V j / V + 18446744073709551616 * (X / 18446744073709551616 ^ (j + 1) / V) ∧ yk X V j = X % 18446744073709551616 ^ j + 18446744073709551616 ^ j * (ur X V j % V) ∧ ur X V j / V < 18446744073709551616 ∧ ur X V j < 18446744073709551616 * V := by
  have hx : X / 18446744073709551616 ^ j % 18446744073709551616 < 18446744073709551616 := Nat.mod_lt _ (by omega)
  obtain ⟨h1, h2, h3⟩ := row_step 18446744073709551616 (X / 18446744073709551616 ^ j % 18446744073709551616) (X / 18446744073709551616 ^ (j + 1)) V hV hx
  have e : X / 18446744073709551616 ^ j % 18446744073709551616 + 18446744073709551616 * (X / 18446744073709551616 ^ (j + 1)) = X / 18446744073709551616 ^ j := by
    rw [Nat.pow_succ, ← Nat.div_div_eq_div_mul]
    have := Nat.div_add_mod (X / 18446744073709551616 ^ j) 18446744073709551616
    omega
  have e2 : X / 18446744073709551616 ^ (j + 1) % V * 18446744073709551616 + X / 18446744073709551616 ^ j % 18446744073709551616 = ur X V j := by
    unfold ur; rw [Nat.mul_comm]; omega
  rw [e, e2] at h1 h2
  rw [e2] at h3
  refine ⟨h1, ?_, h3, ?_⟩
  · unfold yk; rw [h2]
  · unfold ur
    have hr := Nat.mod_lt (X / 18446744073709551616 ^ (j + 1)) hV
    have : 18446744073709551616 * (X / 18446744073709551616 ^ (j + 1) % V + 1) ≤ 18446744073709551616 * V := Nat.mul_le_mul_left _ hr
    rw [Nat.mul_add] at this
    omega
theorem yk_zero (X V : Nat) : yk X V 0 = X % V := by unfold yk; rw [Nat.pow_zero, Nat.mod_one, Nat.div_one]; omega
theorem yk_start (X V k : Nat) (h : X / 18446744073709551616 ^ k < V) : yk X V k = X := by
  unfold yk; rw [Nat.mod_eq_of_lt h]
  have := Nat.div_add_mod X (18446744073709551616 ^ k)
  omega
/-- the words of the round: u0 = the words of U = ur at n, n-1, n-2 where n = p + 2 -/
structure Rd3 (U V vn1 vn2 ujn u1 u2 p : Nat) : Prop where
  hV2 : (vn1 * 18446744073709551616 + vn2) * 18446744073709551616 ^ p ≤ V
  hV : V < (vn1 * 18446744073709551616 + vn2 + 1) * 18446744073709551616 ^ p
  hU2 : ((ujn * 18446744073709551616 + u1) * 18446744073709551616 + u2) * 18446744073709551616 ^ p ≤ U
  hU : U < ((ujn * 18446744073709551616 + u1) * 18446744073709551616 + u2 + 1) * 18446744073709551616 ^ p
  hle : ujn ≤ vn1
theorem two_words (B S p : Nat) (hB : 0 < B) : S / B ^ (p + 1) * B + S / B ^ p % B = S / B ^ p := by
  have := Nat.div_add_mod (S / B ^ p) B
  rw [Nat.div_div_eq_div_mul, ← Nat.pow_succ] at this
  rw [Nat.mul_comm]; exact this
theorem rd3_of (X V j p : Nat) (hV : 0 < V) (hVn : V < 18446744073709551616 ^ (p + 2)) :
    Rd3 (ur X V j) V (V / 18446744073709551616 ^ (p + 1)) (V / 18446744073709551616 ^ p % 18446744073709551616) (ur X V j / 18446744073709551616 ^ (p + 2)) (ur X V j / 18446744073709551616 ^ (p + 1) % 18446744073709551616) (ur X V j / 18446744073709551616 ^ p % 18446744073709551616) p := by
  have hp : 0 < 18446744073709551616 ^ p := Nat.pow_pos (by omega)
  obtain ⟨_, _, _, hUB⟩ := ur_div X V j hV
  have hdv : ∀ S : Nat, S / 18446744073709551616 ^ p * 18446744073709551616 ^ p ≤ S ∧ S < (S / 18446744073709551616 ^ p + 1) * 18446744073709551616 ^ p := fun S => by
    have e := Nat.div_add_mod S (18446744073709551616 ^ p)
    have hr := Nat.mod_lt S hp
    rw [Nat.add_mul, Nat.one_mul, Nat.mul_comm]
    generalize 18446744073709551616 ^ p * (S / 18446744073709551616 ^ p) = a at *
    omega
  refine ⟨?_, ?_, ?_, ?_, ?_⟩
  · rw [two_words _ _ _ (by omega)]; exact (hdv V).1
  · rw [two_words _ _ _ (by omega)]; exact (hdv V).2
  · rw [two_words _ _ _ (by omega), two_words _ _ _ (by omega)]; exact (hdv _).1
  · rw [two_words _ _ _ (by omega), two_words _ _ _ (by omega)]; exact (hdv _).2
  · have e : ur X V j / 18446744073709551616 ^ (p + 2) = X / 18446744073709551616 ^ (j + 1) % V / 18446744073709551616 ^ (p + 1) := by
      rw [show p + 2 = (p + 1) + 1 from rfl, Nat.pow_succ, Nat.mul_comm, ← Nat.div_div_eq_div_mul]
      congr 1
      unfold ur
      rw [Nat.add_mul_div_left _ _ (by omega), Nat.div_eq_of_lt (Nat.mod_lt _ (by omega)), Nat.zero_add]
    rw [e]
    exact Nat.div_le_div_right (Nat.le_of_lt (Nat.mod_lt _ hV))
theorem lo_div (lo U B j i : Nat) (hB : 0 < B) (h : lo < B ^ j) : (lo + B ^ j * U) / B ^ (j + i) = U / B ^ i := by
  rw [Nat.pow_add, ← Nat.div_div_eq_div_mul, Nat.add_mul_div_left _ _ (Nat.pow_pos hB), Nat.div_eq_of_lt h, Nat.zero_add]
/-- the words of the round, in the row -/
theorem row_get (Lu : List Value) (N X V j i : Nat) (hL : N ≤ Lu.length) (h : j + i < N) : (splice Lu 0 ((dgs 18446744073709551616 N (yk X V (j + 1))).map wv)).getD (j + i) undef = .int .u64 ((ur X V j / 18446744073709551616 ^ i % 18446744073709551616 : Nat) : Int) := by
  have hs := splice_getD Lu 0 ((dgs 18446744073709551616 N (yk X V (j + 1))).map wv) (by simp [dgs_length]; omega) (j + i) (by simp [dgs_length]; omega)
  rw [Nat.zero_add] at hs
  rw [hs, getD_map_wv _ _ (by rw [dgs_length]; exact h), dgs_get _ _ _ _ h, yk_succ, lo_div _ _ _ _ _ (by omega) (Nat.mod_lt _ (Nat.pow_pos (by omega)))]
theorem ujn_eq (X V j p : Nat) : X / 18446744073709551616 ^ (j + 1) % V / 18446744073709551616 ^ (p + 1) = ur X V j / 18446744073709551616 ^ (p + 2) := by
  rw [show p + 2 = (p + 1) + 1 from rfl, Nat.pow_succ _ (p + 1), Nat.mul_comm _ 18446744073709551616, ← Nat.div_div_eq_div_mul]
  congr 1
  unfold ur
  rw [Nat.add_mul_div_left _ _ (by omega), Nat.div_eq_of_lt (Nat.mod_lt _ (by omega)), Nat.zero_add]
/-- the comparison of two words each -/
theorem gt_words (a r u2 : Nat) (hu : u2 < 18446744073709551616) : (r < a / 18446744073709551616 ∨ r = a / 18446744073709551616 ∧ u2 < a % 18446744073709551616) ↔ r * 18446744073709551616 + u2 < a := by omega
/-- the product's words when the guess falls by one -/
theorem less_words (a v : Nat) (hv : v < 18446744073709551616) (h : v ≤ a) : (a % 18446744073709551616 < v → (a - v) / 18446744073709551616 = a / 18446744073709551616 - 1 ∧ (a - v) % 18446744073709551616 = a % 18446744073709551616 + 18446744073709551616 - v ∧ 0 < a / 18446744073709551616) ∧ (¬ a % 18446744073709551616 < v → (a - v) / 18446744073709551616 = a / 18446744073709551616 ∧ (a - v) % 18446744073709551616 = a % 18446744073709551616 - v) := by omega
theorem rd_top (B W U V vn1 vn2 u1 u2 : Nat) (hV2 : (vn1 * B + vn2) * W ≤ V) (hV : V < (vn1 * B + vn2 + 1) * W) (hU2 : ((vn1 * B + u1) * B + u2) * W ≤ U) (htop : B ≤ vn1 + vn1) (hv2 : vn2 < B) : (B - 1) * V < U + V := by
  refine guess_top B (W * B) V U vn1 (by omega) ?_ ?_ ?_
  · have h1 : (vn1 * B + vn2 + 1) * W ≤ ((vn1 + 1) * B) * W := Nat.mul_le_mul_right _ (by rw [Nat.add_mul, Nat.one_mul]; omega)
    rw [show (vn1 + 1) * (W * B) = (vn1 + 1) * B * W by rw [Nat.mul_comm W, Nat.mul_assoc]]
    omega
  · have h1 : (vn1 * B * B) * W ≤ ((vn1 * B + u1) * B + u2) * W := Nat.mul_le_mul_right _ (by rw [Nat.add_mul (vn1 * B)]; omega)
    rw [show vn1 * (W * B) * B = vn1 * B * B * W by rw [← Nat.mul_assoc, Nat.mul_right_comm vn1 W B, Nat.mul_right_comm (vn1 * B) W B]]
    omega
  · have h1 : B * B * W ≤ (vn1 + vn1) * B * W := Nat.mul_le_mul_right _ (Nat.mul_le_mul_right _ htop)
    have h2 : vn1 * B * W ≤ (vn1 * B + vn2) * W := Nat.mul_le_mul_right _ (by omega)
    rw [show W * B * B = B * B * W by rw [Nat.mul_comm W, Nat.mul_right_comm]]
    rw [Nat.add_mul, Nat.add_mul] at h1
    omega
theorem splice_beyond (L cs : List Value) (o i : Nat) (h : cs.length ≤ i) (hl : o + cs.length ≤ L.length) : (splice L o cs).getD (o + i) undef = L.getD (o + i) undef := by
  unfold splice
  have e1 : (L.take o).length = o := by simp; omega
  rw [List.getD_eq_getElem?_getD, List.getElem?_append_right (by omega), e1, List.getElem?_append_right (by omega), List.getElem?_drop, List.getD_eq_getElem?_getD]
  congr 2
  omega
/-- what stands in the row when the product is taken away, and when the divisor is given back -/
theorem taken {B k U V g : Nat} (hg : g * V ≤ U) (h1 : g * V < U + V) (h2 : U < (g + 1) * V) : dgs B k (U + B ^ k - g * V) = dgs B k (U % V) ∧ U / V = g := by
  obtain ⟨e1, e2⟩ := (digit_of U V g h1 h2).1 hg
  refine ⟨?_, e1⟩
  rw [e2]
  apply dgs_congr
  rw [show U + B ^ k - g * V = (U - g * V) + B ^ k by omega, Nat.add_mod_right]
theorem given {B n U V g : Nat} (hB : 0 < B) (hg : U < g * V) (h1 : g * V < U + V) (h2 : U < (g + 1) * V) (hgV : g * V < U + B ^ (n + 1)) :
    dgs B n ((U + B ^ (n + 1) - g * V) % B ^ n + V) ++ [((U + B ^ (n + 1) - g * V) / B ^ n + ((U + B ^ (n + 1) - g * V) % B ^ n + V) / B ^ n) % B] = dgs B (n + 1) (U % V) ∧ U / V = g - 1 ∧ 0 < g := by
  obtain ⟨h0, e1, e2⟩ := (digit_of U V g h1 h2).2 hg
  refine ⟨?_, e1, h0⟩
  have hs := (dgs_step B n ((U + B ^ (n + 1) - g * V) % B ^ n + V) ((U + B ^ (n + 1) - g * V) / B ^ n) hB).1
  have hm := Nat.div_add_mod (U + B ^ (n + 1) - g * V) (B ^ n)
  rw [Nat.add_comm ((U + B ^ (n + 1) - g * V) / B ^ n), ← hs]
  apply dgs_congr
  rw [show (U + B ^ (n + 1) - g * V) % B ^ n + V + B ^ n * ((U + B ^ (n + 1) - g * V) / B ^ n) = (U + V - g * V) + B ^ (n + 1) by omega, Nat.add_mod_right, e2]
theorem given_top {B n U V g : Nat} (hg : U < g * V) (h1 : g * V < U + V) (h2 : U < (g + 1) * V) (hgV : g * V < U + B ^ n) :
    dgs B n ((U + B ^ n - g * V) + V) = dgs B n (U % V) ∧ U / V = g - 1 ∧ 0 < g := by
  obtain ⟨h0, e1, e2⟩ := (digit_of U V g h1 h2).2 hg
  refine ⟨?_, e1, h0⟩
  apply dgs_congr
  rw [show U + B ^ n - g * V + V = (U + V - g * V) + B ^ n by omega, Nat.add_mod_right, e2]
end Go.Proofs.YtpcnmgldmnncoaaGreatDoor

namespace Go.Proofs.YtpcnmgldmnncoaaGreatDoor
open Go.RowKit Dig

theorem ur_top (X V j : Nat) (h : X / 18446744073709551616 ^ j < V) : ur X V j < V := by
  unfold ur
  have e : X / 18446744073709551616 ^ (j + 1) = X / 18446744073709551616 ^ j / 18446744073709551616 := by rw [Nat.pow_succ, ← Nat.div_div_eq_div_mul]
  rw [e]
  generalize X / 18446744073709551616 ^ j = a at *
  rw [Nat.mod_eq_of_lt (Nat.lt_of_le_of_lt (Nat.div_le_self _ _) h)]
  omega
theorem splice_in (Lu A C : List Value) (j : Nat) (h : j + C.length ≤ A.length) (hA : A.length ≤ Lu.length) : splice (splice Lu 0 A) j C = splice Lu 0 (A.take j ++ (C ++ A.drop (j + C.length))) := by
  unfold splice
  have e1 : (A.take j ++ (C ++ A.drop (j + C.length))).length = A.length := by simp; omega
  rw [e1]
  simp only [List.take_zero, List.nil_append, Nat.zero_add]
  rw [List.take_append_of_le_length (by omega), List.drop_append_of_le_length (by omega)]
  simp [List.append_assoc]
theorem splice_over (L C1 C2 : List Value) (j : Nat) (h : C1.length = C2.length) (hl : j + C1.length ≤ L.length) : splice (splice L j C1) j C2 = splice L j C2 := by
  unfold splice
  have e0 : (L.take j).length = j := by simp; omega
  rw [List.take_append_of_le_length (by omega), List.take_take, Nat.min_self]
  congr 2
  rw [List.drop_append, e0, List.drop_of_length_le (by omega), List.nil_append, show j + C2.length - j = C2.length by omega, List.drop_append, List.drop_of_length_le (by omega), List.nil_append, show C2.length - C1.length = 0 by omega, List.drop_zero, h]
theorem row_next (Lu : List Value) (N X V j k U' : Nat) (hL : N ≤ Lu.length) (h : j + k ≤ N) (hU : ur X V j < 18446744073709551616 ^ k) (hU' : U' < 18446744073709551616 ^ k) :
    splice (splice Lu 0 ((dgs 18446744073709551616 N (yk X V (j + 1))).map wv)) j ((dgs 18446744073709551616 k U').map wv) = splice Lu 0 ((dgs 18446744073709551616 N (X % 18446744073709551616 ^ j + 18446744073709551616 ^ j * U')).map wv) := by
  rw [splice_in _ _ _ _ (by simp [dgs_length]; omega) (by simp [dgs_length]; omega)]
  congr 1
  rw [yk_succ, ← dgs_splice 18446744073709551616 N j k (X % 18446744073709551616 ^ j) (ur X V j) U' (by omega) h (Nat.mod_lt _ (Nat.pow_pos (by omega))) hU hU']
  simp [List.map_append, List.map_take, List.map_drop, dgs_length]
theorem ujn_next (Lu : List Value) (N X V j p : Nat) (hL : N ≤ Lu.length) (h : j + (p + 1) < N) (hV : 0 < V) (hVn : V < 18446744073709551616 ^ (p + 2)) :
    (splice Lu 0 ((dgs 18446744073709551616 N (yk X V j)).map wv)).getD (j + (p + 1)) undef = .int .u64 ((X / 18446744073709551616 ^ j % V / 18446744073709551616 ^ (p + 1) : Nat) : Int) := by
  have hs := splice_getD Lu 0 ((dgs 18446744073709551616 N (yk X V j)).map wv) (by simp [dgs_length]; omega) (j + (p + 1)) (by simp [dgs_length]; omega)
  rw [Nat.zero_add] at hs
  rw [hs, getD_map_wv _ _ (by rw [dgs_length]; exact h), dgs_get _ _ _ _ h]
  unfold yk
  rw [lo_div _ _ _ _ _ (by omega) (Nat.mod_lt _ (Nat.pow_pos (by omega)))]
  congr 2
  apply Nat.mod_eq_of_lt
  rw [Nat.div_lt_iff_lt_mul (Nat.pow_pos (by omega)), Nat.mul_comm, ← Nat.pow_succ]
  exact Nat.lt_trans (Nat.mod_lt _ hV) hVn
theorem q_next (Lq : List Value) (M X V j g : Nat) (hL : M ≤ Lq.length) (hj : j < M) (hV : 0 < V) (hg : ur X V j / V = g) (hgB : g < 18446744073709551616) :
    (splice Lq (j + 1) ((dgs 18446744073709551616 (M - (j + 1)) (X / 18446744073709551616 ^ (j + 1) / V)).map wv)).set j (.int .u64 (g : Int)) = splice Lq j ((dgs 18446744073709551616 (M - j) (X / 18446744073709551616 ^ j / V)).map wv) := by
  have h := splice_front Lq j ((dgs 18446744073709551616 (M - (j + 1)) (X / 18446744073709551616 ^ (j + 1) / V)).map wv) (.int .u64 (g : Int)) (by simp [dgs_length]; omega)
  rw [h]
  congr 1
  obtain ⟨h1, _⟩ := ur_div X V j hV
  rw [h1, hg, show M - j = (M - (j + 1)) + 1 by omega, dgs_cons _ _ _ _ hgB]
  rfl
/-- the row behind the difference, when nothing was borrowed -/
theorem row_taken (Lu : List Value) (N X V j k g : Nat) (hL : N ≤ Lu.length) (h : j + k ≤ N) (hV : 0 < V) (hU : ur X V j < 18446744073709551616 ^ k) (hg : g * V ≤ ur X V j) (h1 : g * V < ur X V j + V) (h2 : ur X V j < (g + 1) * V) :
    splice (splice Lu 0 ((dgs 18446744073709551616 N (yk X V (j + 1))).map wv)) j ((dgs 18446744073709551616 k (ur X V j + 18446744073709551616 ^ k - g * V)).map wv) = splice Lu 0 ((dgs 18446744073709551616 N (yk X V j)).map wv) ∧ ur X V j / V = g := by
  obtain ⟨e1, e2⟩ := taken (B := 18446744073709551616) (k := k) hg h1 h2
  refine ⟨?_, e2⟩
  rw [e1, row_next Lu N X V j k _ hL h hU (Nat.lt_of_le_of_lt (Nat.mod_le _ _) hU), (ur_div X V j hV).2.1]
/-- the row when the divisor was given back: n + 1 words -/
theorem row_given (Lu : List Value) (N X V j n g : Nat) (hL : N ≤ Lu.length) (h : j + (n + 1) ≤ N) (hV : 0 < V) (hU : ur X V j < 18446744073709551616 ^ (n + 1)) (hg : ur X V j < g * V) (h1 : g * V < ur X V j + V) (h2 : ur X V j < (g + 1) * V) (hgV : g * V < ur X V j + 18446744073709551616 ^ (n + 1)) (D : Nat) (hD : D = ur X V j + 18446744073709551616 ^ (n + 1) - g * V) :
    (splice (splice (splice Lu 0 ((dgs 18446744073709551616 N (yk X V (j + 1))).map wv)) j ((dgs 18446744073709551616 (n + 1) D).map wv)) j ((dgs 18446744073709551616 n (D % 18446744073709551616 ^ n + V)).map wv)).set (j + n) (.int .u64 (((D / 18446744073709551616 ^ n + (D % 18446744073709551616 ^ n + V) / 18446744073709551616 ^ n) % 18446744073709551616 : Nat) : Int)) = splice Lu 0 ((dgs 18446744073709551616 N (yk X V j)).map wv) ∧ ur X V j / V = g - 1 ∧ 0 < g := by
  obtain ⟨e1, e2, e3⟩ := given (B := 18446744073709551616) (n := n) (by omega) hg h1 h2 hgV
  rw [← hD] at e1
  refine ⟨?_, e2, e3⟩
  have hl : (splice Lu 0 ((dgs 18446744073709551616 N (yk X V (j + 1))).map wv)).length = Lu.length := length_splice _ _ _ (by simp [dgs_length]; omega)
  have hl2 : (splice (splice Lu 0 ((dgs 18446744073709551616 N (yk X V (j + 1))).map wv)) j ((dgs 18446744073709551616 (n + 1) D).map wv)).length = Lu.length := by rw [length_splice _ _ _ (by simp [dgs_length]; omega), hl]
  have hs := splice_set (splice (splice Lu 0 ((dgs 18446744073709551616 N (yk X V (j + 1))).map wv)) j ((dgs 18446744073709551616 (n + 1) D).map wv)) j n ((dgs 18446744073709551616 n (D % 18446744073709551616 ^ n + V)).map wv) (wv ((D / 18446744073709551616 ^ n + (D % 18446744073709551616 ^ n + V) / 18446744073709551616 ^ n) % 18446744073709551616)) (by simp [dgs_length]) (by omega)
  refine hs.trans ?_
  have e4 : (dgs 18446744073709551616 n (D % 18446744073709551616 ^ n + V)).map wv ++ [wv ((D / 18446744073709551616 ^ n + (D % 18446744073709551616 ^ n + V) / 18446744073709551616 ^ n) % 18446744073709551616)] = (dgs 18446744073709551616 (n + 1) (ur X V j % V)).map wv := by
    rw [← e1]; simp
  rw [e4, splice_over _ _ _ _ (by simp [dgs_length]) (by simp [dgs_length]; omega), row_next Lu N X V j (n + 1) _ hL h hU (Nat.lt_of_le_of_lt (Nat.mod_le _ _) hU), (ur_div X V j hV).2.1]
/-- the row when the divisor was given back: the top round, n words -/
theorem row_given_top (Lu : List Value) (N X V j n g : Nat) (hL : N ≤ Lu.length) (h : j + n ≤ N) (hV : 0 < V) (hU : ur X V j < 18446744073709551616 ^ n) (hg : ur X V j < g * V) (h1 : g * V < ur X V j + V) (h2 : ur X V j < (g + 1) * V) (hgV : g * V < ur X V j + 18446744073709551616 ^ n) (D : Nat) (hD : D = ur X V j + 18446744073709551616 ^ n - g * V) :
    splice (splice (splice Lu 0 ((dgs 18446744073709551616 N (yk X V (j + 1))).map wv)) j ((dgs 18446744073709551616 n D).map wv)) j ((dgs 18446744073709551616 n (D % 18446744073709551616 ^ n + V)).map wv) = splice Lu 0 ((dgs 18446744073709551616 N (yk X V j)).map wv) ∧ ur X V j / V = g - 1 ∧ 0 < g := by
  obtain ⟨e1, e2, e3⟩ := given_top (B := 18446744073709551616) (n := n) hg h1 h2 hgV
  refine ⟨?_, e2, e3⟩
  have hl : (splice Lu 0 ((dgs 18446744073709551616 N (yk X V (j + 1))).map wv)).length = Lu.length := length_splice _ _ _ (by simp [dgs_length]; omega)
  have e4 : dgs 18446744073709551616 n (D % 18446744073709551616 ^ n + V) = dgs 18446744073709551616 n (ur X V j % V) := by
    rw [← e1, hD]
    apply dgs_congr
    rw [Nat.add_mod, Nat.mod_mod, ← Nat.add_mod]
  rw [e4, splice_over _ _ _ _ (by simp [dgs_length]) (by simp [dgs_length]; omega), row_next Lu N X V j n _ hL h hU (Nat.lt_of_le_of_lt (Nat.mod_le _ _) hU), (ur_div X V j hV).2.1]
/-- a word of a row that was written from place j on -/
theorem row_word (L : List Value) (j n D i : Nat) (h : j + n ≤ L.length) (hi : i < n) : (splice L j ((dgs 18446744073709551616 n D).map wv)).getD (j + i) undef = .int .u64 ((D / 18446744073709551616 ^ i % 18446744073709551616 : Nat) : Int) := by
  rw [splice_getD _ _ _ (by simp [dgs_length]; omega) i (by simp [dgs_length]; exact hi), getD_map_wv _ _ (by rw [dgs_length]; exact hi), dgs_get _ _ _ _ hi]
end Go.Proofs.YtpcnmgldmnncoaaGreatDoor
