/- The operators bit by bit over all integers, and what the machine's signed words make of small ones. No program in sight. -/
import Derived.Test.YthnmkbdeoahiaaaBitMath
import Derived.Laws.BitsLemmas
namespace Go.Proofs.Ythnmkbdeoahiaaa.Dig

/-- and, or, xor, not over the integers, as math/big reckons them -/
def andI (i j : Int) : Int :=
  if i < 0 then (if j < 0 then -((forr (i.natAbs - 1) (j.natAbs - 1) + 1 : Nat) : Int) else ((anot j.natAbs (i.natAbs - 1) : Nat) : Int))
  else (if j < 0 then ((anot i.natAbs (j.natAbs - 1) : Nat) : Int) else ((fand i.natAbs j.natAbs : Nat) : Int))
def orI (i j : Int) : Int :=
  if i < 0 then (if j < 0 then -((fand (i.natAbs - 1) (j.natAbs - 1) + 1 : Nat) : Int) else -((anot (i.natAbs - 1) j.natAbs + 1 : Nat) : Int))
  else (if j < 0 then -((anot (j.natAbs - 1) i.natAbs + 1 : Nat) : Int) else ((forr i.natAbs j.natAbs : Nat) : Int))
def xorI (i j : Int) : Int :=
  if i < 0 then (if j < 0 then ((fxor (i.natAbs - 1) (j.natAbs - 1) : Nat) : Int) else -((fxor j.natAbs (i.natAbs - 1) + 1 : Nat) : Int))
  else (if j < 0 then -((fxor i.natAbs (j.natAbs - 1) + 1 : Nat) : Int) else ((fxor i.natAbs j.natAbs : Nat) : Int))
def notI (i : Int) : Int := -i - 1

theorem and_or_sum (i j : Int) : andI i j + orI i j = i + j := by
  unfold andI orI
  have h1 := or_fand i.natAbs j.natAbs
  have h2 := or_fand (i.natAbs - 1) (j.natAbs - 1)
  have h3 := anot_fand j.natAbs (i.natAbs - 1)
  have h4 := anot_fand (i.natAbs - 1) j.natAbs
  have h5 := anot_fand i.natAbs (j.natAbs - 1)
  have h6 := anot_fand (j.natAbs - 1) i.natAbs
  rw [fand_comm (i.natAbs - 1) j.natAbs] at h4
  rw [fand_comm (j.natAbs - 1) i.natAbs] at h6
  split <;> split <;> omega
theorem or_sub_and (i j : Int) : orI i j - andI i j = xorI i j := by
  unfold andI orI xorI
  have h1 := or_fand i.natAbs j.natAbs
  have g1 := xor_fand i.natAbs j.natAbs
  have h2 := or_fand (i.natAbs - 1) (j.natAbs - 1)
  have g2 := xor_fand (i.natAbs - 1) (j.natAbs - 1)
  have h3 := anot_fand j.natAbs (i.natAbs - 1)
  have h4 := anot_fand (i.natAbs - 1) j.natAbs
  have g3 := xor_fand j.natAbs (i.natAbs - 1)
  have h5 := anot_fand i.natAbs (j.natAbs - 1)
  have h6 := anot_fand (j.natAbs - 1) i.natAbs
  have g5 := xor_fand i.natAbs (j.natAbs - 1)
  rw [fand_comm (i.natAbs - 1) j.natAbs] at h4
  rw [fand_comm (j.natAbs - 1) i.natAbs] at h6
  split <;> split <;> omega
theorem not_and_or (i j : Int) : notI (andI i j) = orI (notI i) (notI j) := by
  unfold notI andI orI
  by_cases hi : i < 0 <;> by_cases hj : j < 0
  · rw [if_pos hi, if_pos hj, if_neg (by omega), if_neg (by omega), show (-i - 1).natAbs = i.natAbs - 1 by omega, show (-j - 1).natAbs = j.natAbs - 1 by omega]; omega
  · rw [if_pos hi, if_neg hj, if_neg (by omega), if_pos (by omega), show (-i - 1).natAbs = i.natAbs - 1 by omega, show (-j - 1).natAbs - 1 = j.natAbs by omega]; omega
  · rw [if_neg hi, if_pos hj, if_pos (by omega), if_neg (by omega), show (-i - 1).natAbs - 1 = i.natAbs by omega, show (-j - 1).natAbs = j.natAbs - 1 by omega]; omega
  · rw [if_neg hi, if_neg hj, if_pos (by omega), if_pos (by omega), show (-i - 1).natAbs - 1 = i.natAbs by omega, show (-j - 1).natAbs - 1 = j.natAbs by omega]; omega

/-- an integer's two forms in a machine's word -/
theorem word_pos (i : Int) (h : 0 ≤ i) : BitVec.ofInt 64 i = BitVec.ofNat 64 i.natAbs := by
  obtain ⟨a, rfl⟩ := Int.eq_ofNat_of_zero_le h
  rw [BitVec.ofInt_natCast]; simp
theorem word_neg (i : Int) (h : i < 0) : BitVec.ofInt 64 i = ~~~BitVec.ofNat 64 (i.natAbs - 1) := by
  have e : i = Int.negSucc (i.natAbs - 1) := by omega
  rw [← BitVec.ofInt_negSucc_eq_not_ofNat, ← e]
theorem wrap_pos (a : Nat) (h : a < 2 ^ 31) : IntKind.i64.wrap (a : Int) = (a : Int) := by rw [IntKind.wrap_i64]; omega
theorem wrap_neg (a : Nat) (h : a < 2 ^ 31) : IntKind.i64.wrap ((18446744073709551615 - a : Nat) : Int) = -((a + 1 : Nat) : Int) := by rw [IntKind.wrap_i64]; omega
theorem toNat_small (a : Nat) (h : a < 2 ^ 31) : (BitVec.ofNat 64 a).toNat = a := by rw [BitVec.toNat_ofNat]; exact Nat.mod_eq_of_lt (by omega)
theorem toNat_notw (b : BitVec 64) : (~~~b).toNat = 18446744073709551615 - b.toNat := by rw [BitVec.toNat_not]
theorem bv1 (a b : BitVec 64) : ~~~a &&& ~~~b = ~~~(a ||| b) := by
  ext i; simp only [BitVec.getElem_and, BitVec.getElem_not, BitVec.getElem_or]; cases a[i] <;> cases b[i] <;> rfl
theorem bv2 (a b : BitVec 64) : a &&& ~~~b = a ^^^ (a &&& b) := by
  ext i; simp only [BitVec.getElem_and, BitVec.getElem_not, BitVec.getElem_xor]; cases a[i] <;> cases b[i] <;> rfl
theorem bv3 (a b : BitVec 64) : ~~~a &&& b = b ^^^ (b &&& a) := by
  ext i; simp only [BitVec.getElem_and, BitVec.getElem_not, BitVec.getElem_xor]; cases a[i] <;> cases b[i] <;> rfl
theorem bv4 (a b : BitVec 64) : ~~~a ||| ~~~b = ~~~(a &&& b) := by
  ext i; simp only [BitVec.getElem_and, BitVec.getElem_not, BitVec.getElem_or]; cases a[i] <;> cases b[i] <;> rfl
theorem bv5 (a b : BitVec 64) : a ||| ~~~b = ~~~(b ^^^ (b &&& a)) := by
  ext i; simp only [BitVec.getElem_and, BitVec.getElem_not, BitVec.getElem_or, BitVec.getElem_xor]; cases a[i] <;> cases b[i] <;> rfl
theorem bv6 (a b : BitVec 64) : ~~~a ||| b = ~~~(a ^^^ (a &&& b)) := by
  ext i; simp only [BitVec.getElem_and, BitVec.getElem_not, BitVec.getElem_or, BitVec.getElem_xor]; cases a[i] <;> cases b[i] <;> rfl
theorem bv7 (a b : BitVec 64) : ~~~a ^^^ ~~~b = a ^^^ b := by
  ext i; simp only [BitVec.getElem_not, BitVec.getElem_xor]; cases a[i] <;> cases b[i] <;> rfl
theorem bv8 (a b : BitVec 64) : a ^^^ ~~~b = ~~~(a ^^^ b) := by
  ext i; simp only [BitVec.getElem_not, BitVec.getElem_xor]; cases a[i] <;> cases b[i] <;> rfl
theorem bv9 (a b : BitVec 64) : ~~~a ^^^ b = ~~~(b ^^^ a) := by
  ext i; simp only [BitVec.getElem_not, BitVec.getElem_xor]; cases a[i] <;> cases b[i] <;> rfl

theorem bits_and_i64 (i j : Int) (i1 : -2147483648 ≤ i) (i2 : i ≤ 2147483647) (j1 : -2147483648 ≤ j) (j2 : j ≤ 2147483647) : bits .and .i64 i j = andI i j := by
  show IntKind.i64.wrap ((BitVec.ofInt 64 i &&& BitVec.ofInt 64 j).toNat : Int) = _
  unfold andI
  by_cases hi : i < 0 <;> by_cases hj : j < 0
  · rw [if_pos hi, if_pos hj, word_neg i hi, word_neg j hj, bv1, toNat_notw, BitVec.toNat_or, toNat_small _ (by omega), toNat_small _ (by omega)]
    exact wrap_neg _ (bitw_or.lt (by omega) (by omega))
  · rw [if_pos hi, if_neg hj, word_neg i hi, word_pos j (by omega), bv3, BitVec.toNat_xor, BitVec.toNat_and, toNat_small _ (by omega), toNat_small _ (by omega)]
    exact wrap_pos _ (bitw_anot.lt (by omega) (by omega))
  · rw [if_neg hi, if_pos hj, word_pos i (by omega), word_neg j hj, bv2, BitVec.toNat_xor, BitVec.toNat_and, toNat_small _ (by omega), toNat_small _ (by omega)]
    exact wrap_pos _ (bitw_anot.lt (by omega) (by omega))
  · rw [if_neg hi, if_neg hj, word_pos i (by omega), word_pos j (by omega), BitVec.toNat_and, toNat_small _ (by omega), toNat_small _ (by omega)]
    exact wrap_pos _ (bitw_and.lt (by omega) (by omega))
theorem bits_or_i64 (i j : Int) (i1 : -2147483648 ≤ i) (i2 : i ≤ 2147483647) (j1 : -2147483648 ≤ j) (j2 : j ≤ 2147483647) : bits .or .i64 i j = orI i j := by
  show IntKind.i64.wrap ((BitVec.ofInt 64 i ||| BitVec.ofInt 64 j).toNat : Int) = _
  unfold orI
  by_cases hi : i < 0 <;> by_cases hj : j < 0
  · rw [if_pos hi, if_pos hj, word_neg i hi, word_neg j hj, bv4, toNat_notw, BitVec.toNat_and, toNat_small _ (by omega), toNat_small _ (by omega)]
    exact wrap_neg _ (bitw_and.lt (by omega) (by omega))
  · rw [if_pos hi, if_neg hj, word_neg i hi, word_pos j (by omega), bv6, toNat_notw, BitVec.toNat_xor, BitVec.toNat_and, toNat_small _ (by omega), toNat_small _ (by omega)]
    exact wrap_neg _ (bitw_anot.lt (by omega) (by omega))
  · rw [if_neg hi, if_pos hj, word_pos i (by omega), word_neg j hj, bv5, toNat_notw, BitVec.toNat_xor, BitVec.toNat_and, toNat_small _ (by omega), toNat_small _ (by omega)]
    exact wrap_neg _ (bitw_anot.lt (by omega) (by omega))
  · rw [if_neg hi, if_neg hj, word_pos i (by omega), word_pos j (by omega), BitVec.toNat_or, toNat_small _ (by omega), toNat_small _ (by omega)]
    exact wrap_pos _ (bitw_or.lt (by omega) (by omega))
theorem bits_xor_i64 (i j : Int) (i1 : -2147483648 ≤ i) (i2 : i ≤ 2147483647) (j1 : -2147483648 ≤ j) (j2 : j ≤ 2147483647) : bits .xor .i64 i j = xorI i j := by
  show IntKind.i64.wrap ((BitVec.ofInt 64 i ^^^ BitVec.ofInt 64 j).toNat : Int) = _
  unfold xorI
  by_cases hi : i < 0 <;> by_cases hj : j < 0
  · rw [if_pos hi, if_pos hj, word_neg i hi, word_neg j hj, bv7, BitVec.toNat_xor, toNat_small _ (by omega), toNat_small _ (by omega)]
    exact wrap_pos _ (bitw_xor.lt (by omega) (by omega))
  · rw [if_pos hi, if_neg hj, word_neg i hi, word_pos j (by omega), bv9, toNat_notw, BitVec.toNat_xor, toNat_small _ (by omega), toNat_small _ (by omega)]
    exact wrap_neg _ (bitw_xor.lt (by omega) (by omega))
  · rw [if_neg hi, if_pos hj, word_pos i (by omega), word_neg j hj, bv8, toNat_notw, BitVec.toNat_xor, toNat_small _ (by omega), toNat_small _ (by omega)]
    exact wrap_neg _ (bitw_xor.lt (by omega) (by omega))
  · rw [if_neg hi, if_neg hj, word_pos i (by omega), word_pos j (by omega), BitVec.toNat_xor, toNat_small _ (by omega), toNat_small _ (by omega)]
    exact wrap_pos _ (bitw_xor.lt (by omega) (by omega))

/-- the results of small operands are small -/
theorem small_of (i j : Int) (i1 : -2147483648 ≤ i) (i2 : i ≤ 2147483647) (j1 : -2147483648 ≤ j) (j2 : j ≤ 2147483647) :
    (-2147483648 ≤ andI i j ∧ andI i j ≤ 2147483647) ∧ (-2147483648 ≤ orI i j ∧ orI i j ≤ 2147483647) ∧ (-2147483648 ≤ xorI i j ∧ xorI i j ≤ 2147483647) := by
  unfold andI orI xorI
  by_cases hi : i < 0 <;> by_cases hj : j < 0
  · have h1 := bitw_or.lt (n := 31) (a := i.natAbs - 1) (b := j.natAbs - 1) (by omega) (by omega)
    have h2 := bitw_and.lt (n := 31) (a := i.natAbs - 1) (b := j.natAbs - 1) (by omega) (by omega)
    have h3 := bitw_xor.lt (n := 31) (a := i.natAbs - 1) (b := j.natAbs - 1) (by omega) (by omega)
    simp only [if_pos hi, if_pos hj]; omega
  · have h1 := bitw_anot.lt (n := 31) (a := j.natAbs) (b := i.natAbs - 1) (by omega) (by omega)
    have h2 := bitw_anot.lt (n := 31) (a := i.natAbs - 1) (b := j.natAbs) (by omega) (by omega)
    have h3 := bitw_xor.lt (n := 31) (a := j.natAbs) (b := i.natAbs - 1) (by omega) (by omega)
    simp only [if_pos hi, if_neg hj]; omega
  · have h1 := bitw_anot.lt (n := 31) (a := i.natAbs) (b := j.natAbs - 1) (by omega) (by omega)
    have h2 := bitw_anot.lt (n := 31) (a := j.natAbs - 1) (b := i.natAbs) (by omega) (by omega)
    have h3 := bitw_xor.lt (n := 31) (a := i.natAbs) (b := j.natAbs - 1) (by omega) (by omega)
    simp only [if_neg hi, if_pos hj]; omega
  · have h1 := bitw_or.lt (n := 31) (a := i.natAbs) (b := j.natAbs) (by omega) (by omega)
    have h2 := bitw_and.lt (n := 31) (a := i.natAbs) (b := j.natAbs) (by omega) (by omega)
    have h3 := bitw_xor.lt (n := 31) (a := i.natAbs) (b := j.natAbs) (by omega) (by omega)
    simp only [if_neg hi, if_neg hj]; omega
/-- the results of operands of n bits are of n bits, and one more for the sign -/
theorem abs_of (i j : Int) (n : Nat) (hi : i.natAbs < 2 ^ n) (hj : j.natAbs < 2 ^ n) : (andI i j).natAbs ≤ 2 ^ n ∧ (orI i j).natAbs ≤ 2 ^ n ∧ (xorI i j).natAbs ≤ 2 ^ n := by
  have a1 : i.natAbs - 1 < 2 ^ n := by omega
  have b1 : j.natAbs - 1 < 2 ^ n := by omega
  have h1 := bitw_or.lt a1 b1
  have h2 := bitw_and.lt a1 b1
  have h3 := bitw_xor.lt a1 b1
  have h4 := bitw_anot.lt hj a1
  have h5 := bitw_anot.lt a1 hj
  have h6 := bitw_xor.lt hj a1
  have h7 := bitw_anot.lt hi b1
  have h8 := bitw_anot.lt b1 hi
  have h9 := bitw_xor.lt hi b1
  have g1 := bitw_or.lt hi hj
  have g2 := bitw_and.lt hi hj
  have g3 := bitw_xor.lt hi hj
  generalize 2 ^ n = P at *
  unfold andI orI xorI
  split <;> split <;> omega
end Go.Proofs.Ythnmkbdeoahiaaa.Dig
