/- The first and the last of n places, from a on, at which something holds. No program in sight. The places of a text in a part of another one. No program in sight. The library's last place is the last of the places. No program in sight. -/
import Derived.Lib.LastIndexLaws
namespace Go.Proofs.YtoggalnjjhcmkaaGreat.Dig
set_option linter.unusedVariables false
set_option linter.unusedSimpArgs false

def firstIn (P : Nat → Bool) (a : Nat) : Nat → Int
  | 0 => -1
  | n + 1 => if 0 ≤ firstIn P a n then firstIn P a n else if P (a + n) then ((a + n : Nat) : Int) else -1
def lastIn (P : Nat → Bool) (a : Nat) : Nat → Int
  | 0 => -1
  | n + 1 => if P (a + n) then ((a + n : Nat) : Int) else lastIn P a n

theorem firstIn_bd (P : Nat → Bool) (a n : Nat) : firstIn P a n = -1 ∨ ((a : Int) ≤ firstIn P a n ∧ firstIn P a n < a + n) := by
  induction n with
  | zero => exact .inl rfl
  | succ n ih =>
    unfold firstIn
    by_cases h : 0 ≤ firstIn P a n
    · rw [if_pos h]; right; rcases ih with ih | ih <;> omega
    · rw [if_neg h]
      by_cases h2 : P (a + n) = true
      · rw [if_pos h2]; right; omega
      · rw [if_neg h2]; exact .inl rfl
theorem lastIn_bd (P : Nat → Bool) (a n : Nat) : lastIn P a n = -1 ∨ ((a : Int) ≤ lastIn P a n ∧ lastIn P a n < a + n) := by
  induction n with
  | zero => exact .inl rfl
  | succ n ih =>
    unfold lastIn
    by_cases h2 : P (a + n) = true
    · rw [if_pos h2]; right; omega
    · rw [if_neg h2]; rcases ih with ih | ih <;> omega
/-- one more place -/
theorem firstIn_hit (P : Nat → Bool) (a n : Nat) (h : firstIn P a n < 0) (h2 : P (a + n) = true) : firstIn P a (n + 1) = ((a + n : Nat) : Int) := by
  rw [firstIn, if_neg (by omega), if_pos h2]
theorem firstIn_keep (P : Nat → Bool) (a n : Nat) (h : 0 ≤ firstIn P a n) : firstIn P a (n + 1) = firstIn P a n := by
  rw [firstIn, if_pos h]
theorem firstIn_miss (P : Nat → Bool) (a n : Nat) (h2 : P (a + n) = false) : firstIn P a (n + 1) = firstIn P a n := by
  rw [firstIn]
  by_cases h : 0 ≤ firstIn P a n
  · rw [if_pos h]
  · rw [if_neg h, h2]; rcases firstIn_bd P a n with h3 | h3
    · simp [h3]
    · omega
theorem firstIn_stop (P : Nat → Bool) (a n : Nat) (h : 0 ≤ firstIn P a n) (k : Nat) : firstIn P a (n + k) = firstIn P a n := by
  induction k with
  | zero => rfl
  | succ k ih => rw [← Nat.add_assoc, firstIn_keep _ _ _ (by rw [ih]; exact h), ih]
theorem lastIn_hit (P : Nat → Bool) (a n : Nat) (h2 : P (a + n) = true) : lastIn P a (n + 1) = ((a + n : Nat) : Int) := by rw [lastIn, if_pos h2]
theorem lastIn_miss (P : Nat → Bool) (a n : Nat) (h2 : P (a + n) = false) : lastIn P a (n + 1) = lastIn P a n := by rw [lastIn, h2]; simp
/-- from a on, seen from 0 -/
theorem firstIn_shift (P Q : Nat → Bool) (a n : Nat) (h : ∀ j, j < n → Q j = P (a + j)) : firstIn P a n = (if firstIn Q 0 n < 0 then -1 else firstIn Q 0 n + a) := by
  induction n with
  | zero => rfl
  | succ n ih =>
    have ih' := ih (fun j hj => h j (by omega))
    have hb := firstIn_bd Q 0 n
    rw [firstIn, firstIn, ih', Nat.zero_add, h n (by omega)]
    grind
theorem lastIn_shift (P Q : Nat → Bool) (a n : Nat) (h : ∀ j, j < n → Q j = P (a + j)) : lastIn P a n = (if lastIn Q 0 n < 0 then -1 else lastIn Q 0 n + a) := by
  induction n with
  | zero => rfl
  | succ n ih =>
    have ih' := ih (fun j hj => h j (by omega))
    rw [lastIn, lastIn, ih', Nat.zero_add, h n (by omega)]
    by_cases h2 : P (a + n) = true
    · rw [if_pos h2, if_pos h2, if_neg (by omega)]; omega
    · rw [if_neg h2, if_neg h2]
end Go.Proofs.YtoggalnjjhcmkaaGreat.Dig

namespace Go.Proofs.YtoggalnjjhcmkaaGreat.Dig
set_option linter.unusedVariables false
set_option linter.unusedSimpArgs false

/-- does p stand at place i of s? -/
def occB (s p : ByteArray) (i : Nat) : Bool := (s.extract i (i + p.size)).toList == p.toList
/-- the places at which p can stand in s -/
def plc (s p : ByteArray) : Nat := s.size + 1 - p.size
/-- what stands between two places -/
def cutS (s : ByteArray) (a b : Nat) : ByteArray := if a < b then s.extract a b else ByteArray.empty
theorem cutS_size (s : ByteArray) (a b : Nat) (hb : b ≤ s.size) : (cutS s a b).size = max a b - a := by
  unfold cutS
  by_cases h : a < b
  · rw [if_pos h, ByteArray.size_extract]; omega
  · rw [if_neg h]
    have : ByteArray.empty.size = 0 := rfl
    omega
theorem plc_cut (s p : ByteArray) (a b : Nat) (hb : b ≤ s.size) : plc (cutS s a b) p = max a b + 1 - p.size - a := by
  unfold plc
  rw [cutS_size s a b hb]
  omega
theorem extract_none (s : ByteArray) (a : Nat) : s.extract a a = ByteArray.empty := by
  apply ByteArray.ext
  simp
theorem occ_cut (s p : ByteArray) (a b j : Nat) (hb : b ≤ s.size) (hj : j < plc (cutS s a b) p) : occB (cutS s a b) p j = occB s p (a + j) := by
  rw [plc_cut s p a b hb] at hj
  unfold occB
  by_cases h : a < b
  · have e : (cutS s a b).extract j (j + p.size) = s.extract (a + j) (a + j + p.size) := by
      unfold cutS
      rw [if_pos h, ByteArray.extract_extract]
      congr 1
      omega
    rw [e]
  · have hp : p.size = 0 := by omega
    have hj0 : j = 0 := by omega
    subst hj0
    unfold cutS
    rw [if_neg h, hp]
    simp only [Nat.add_zero]
    rw [extract_none, extract_none]
theorem first_cut (s p : ByteArray) (a b : Nat) (hb : b ≤ s.size) :
    firstIn (occB s p) a (max a b + 1 - p.size - a) = (if firstIn (occB (cutS s a b) p) 0 (plc (cutS s a b) p) < 0 then -1 else firstIn (occB (cutS s a b) p) 0 (plc (cutS s a b) p) + a) := by
  rw [← plc_cut s p a b hb]
  exact firstIn_shift _ _ _ _ fun j hj => occ_cut s p a b j hb hj
theorem last_cut (s p : ByteArray) (a b : Nat) (hb : b ≤ s.size) :
    lastIn (occB s p) a (max a b + 1 - p.size - a) = (if lastIn (occB (cutS s a b) p) 0 (plc (cutS s a b) p) < 0 then -1 else lastIn (occB (cutS s a b) p) 0 (plc (cutS s a b) p) + a) := by
  rw [← plc_cut s p a b hb]
  exact lastIn_shift _ _ _ _ fun j hj => occ_cut s p a b j hb hj
end Go.Proofs.YtoggalnjjhcmkaaGreat.Dig

namespace Go.Proofs.YtoggalnjjhcmkaaGreat.Dig
set_option linter.unusedVariables false
set_option linter.unusedSimpArgs false

theorem occAt_occB (s p : ByteArray) (i : Nat) (h : i + p.size ≤ s.size) : Lib.occAt s.data.toList p.data.toList i = occB s p i := by
  unfold Lib.occAt occB
  rw [Bool.eq_iff_iff, List.isPrefixOf_iff_prefix, List.prefix_iff_eq_take, beq_iff_eq, ByteArray.toList_eq, ByteArray.toList_eq, ByteArray.data_extract, Array.toList_extract, List.extract_eq_take_drop, Nat.add_sub_cancel_left]
  have e : p.data.toList.length = p.size := by simp
  rw [e]
  exact eq_comm
theorem lastOcc_lastIn (s p : ByteArray) : ∀ k, k ≤ plc s p → Lib.lastOcc s.data.toList p.data.toList k = lastIn (occB s p) 0 k := by
  intro k
  induction k with
  | zero => intro _; rfl
  | succ k ih =>
    intro hk
    have hk' : k + p.size ≤ s.size := by unfold plc at hk; omega
    rw [lastIn, Nat.zero_add]
    cases ho : occB s p k with
    | true => rw [Lib.lastOcc_hit _ _ _ (by rw [occAt_occB s p k hk']; exact ho)]; simp
    | false => rw [Lib.lastOcc_miss _ _ _ (by rw [occAt_occB s p k hk']; exact ho), ih (by omega)]; simp
theorem lastIndex_lastIn (s p : ByteArray) : Lib.lastIndex s.data.toList p.data.toList = lastIn (occB s p) 0 (plc s p) := by
  unfold Lib.lastIndex
  have e1 : p.data.toList.length = p.size := by simp
  have e2 : s.data.toList.length = s.size := by simp
  rw [e1, e2]
  by_cases h : p.size ≤ s.size
  · rw [if_pos h]
    have e : s.size - p.size + 1 = plc s p := by unfold plc; omega
    rw [e]
    exact lastOcc_lastIn s p _ (Nat.le_refl _)
  · rw [if_neg h]
    have e : plc s p = 0 := by unfold plc; omega
    rw [e]; rfl
end Go.Proofs.YtoggalnjjhcmkaaGreat.Dig
