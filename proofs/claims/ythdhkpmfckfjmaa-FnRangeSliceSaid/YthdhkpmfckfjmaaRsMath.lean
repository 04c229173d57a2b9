/- The plain arithmetic of ranges: how many numbers a range has, and that a slice of a range has as many as the slice's places. No program in sight. -/
namespace Go.Proofs.Ythdhkpmfckfjmaa
namespace Rs
/-- how many numbers from f on, each s, ahead of t -/
def cnt (f t s : Int) : Int := if 0 < s ∧ f < t then (t - f + s - 1) / s else if s < 0 ∧ t < f then (f - t - s - 1) / (-s) else 0

theorem cnt_up {f t s : Int} (h : 0 < s) (h2 : f < t) : cnt f t s = (t - f + s - 1) / s := by
  unfold cnt; rw [if_pos ⟨h, h2⟩]
theorem cnt_down {f t s : Int} (h : s < 0) (h2 : t < f) : cnt f t s = (f - t - s - 1) / (-s) := by
  unfold cnt; rw [if_neg (by omega), if_pos ⟨h, h2⟩]
theorem cnt_up0 {f t s : Int} (h : 0 < s) (h2 : ¬ f < t) : cnt f t s = 0 := by
  unfold cnt; rw [if_neg (by omega), if_neg (by omega)]
theorem cnt_down0 {f t s : Int} (h : s < 0) (h2 : ¬ t < f) : cnt f t s = 0 := by
  unfold cnt; rw [if_neg (by omega), if_neg (by omega)]

theorem div_shift (d s : Int) (hs : 0 < s) : (d + s - 1) / s = (d - 1) / s + 1 := by
  have : d + s - 1 = (d - 1) + 1 * s := by omega
  rw [this, Int.add_mul_ediv_right _ _ (by omega)]

theorem div_scale (d p b : Int) (hp : 0 < p) (_hb : 0 < b) : (d * p + p * b - 1) / (p * b) = (d + b - 1) / b := by
  rw [← Int.ediv_ediv_of_nonneg (by omega)]
  have : d * p + p * b - 1 = -1 + (d + b) * p := by rw [Int.add_mul, Int.mul_comm p b]; omega
  rw [this, Int.add_mul_ediv_right _ _ (by omega)]
  have h1 : (-1 : Int) / p = -1 := by
    have := Int.ediv_eq_neg_one_of_neg_of_le (a := -1) (b := p) (by omega) (by omega)
    exact this
  rw [h1]; congr 1; omega

theorem cnt_scale (s p lo hi b : Int) (hp : p ≠ 0) (hb : b ≠ 0) : cnt (s + p * lo) (s + p * hi) (p * b) = cnt lo hi b := by
  rcases Int.lt_or_gt_of_ne hp with hp | hp <;> rcases Int.lt_or_gt_of_ne hb with hb | hb
  · -- p<0,b<0
    have hpb : 0 < p * b := Int.mul_pos_of_neg_of_neg hp hb
    by_cases h : hi < lo
    · have h2 : p * lo < p * hi := Int.mul_lt_mul_of_neg_left h hp
      rw [cnt_up hpb (by omega), cnt_down hb h]
      have := div_scale (lo - hi) (-p) (-b) (by omega) (by omega)
      rw [Int.neg_mul_neg] at this
      have e : s + p * hi - (s + p * lo) + p * b - 1 = (lo - hi) * -p + p * b - 1 := by
        rw [Int.mul_neg, Int.sub_mul, Int.mul_comm lo, Int.mul_comm hi]; omega
      rw [e, this]; congr 1
    · have h2 : ¬ p * lo < p * hi := by
        have := Int.mul_le_mul_of_nonpos_left (a := p) (by omega) (show lo ≤ hi by omega)
        omega
      rw [cnt_up0 hpb (by omega), cnt_down0 hb h]
  · have hpb : p * b < 0 := Int.mul_neg_of_neg_of_pos hp hb
    by_cases h : lo < hi
    · have h2 : p * hi < p * lo := Int.mul_lt_mul_of_neg_left h hp
      rw [cnt_down hpb (by omega), cnt_up hb h]
      have := div_scale (hi - lo) (-p) b (by omega) (by omega)
      rw [Int.neg_mul] at this
      have e : s + p * lo - (s + p * hi) - p * b - 1 = (hi - lo) * -p + -(p * b) - 1 := by
        rw [Int.mul_neg, Int.sub_mul, Int.mul_comm lo, Int.mul_comm hi]; omega
      rw [e, this]
    · have h2 : ¬ p * hi < p * lo := by
        have := Int.mul_le_mul_of_nonpos_left (a := p) (by omega) (show hi ≤ lo by omega)
        omega
      rw [cnt_down0 hpb (by omega), cnt_up0 hb h]
  · have hpb : p * b < 0 := Int.mul_neg_of_pos_of_neg hp hb
    by_cases h : hi < lo
    · have h2 : p * hi < p * lo := Int.mul_lt_mul_of_pos_left h hp
      rw [cnt_down hpb (by omega), cnt_down hb h]
      have := div_scale (lo - hi) p (-b) (by omega) (by omega)
      rw [Int.mul_neg] at this
      have e : s + p * lo - (s + p * hi) - p * b - 1 = (lo - hi) * p + -(p * b) - 1 := by
        rw [Int.sub_mul, Int.mul_comm lo, Int.mul_comm hi]; omega
      rw [e, this]; congr 1
    · have h2 : ¬ p * hi < p * lo := by
        have := Int.mul_le_mul_of_nonneg_left (c := p) (show lo ≤ hi by omega) (by omega)
        omega
      rw [cnt_down0 hpb (by omega), cnt_down0 hb h]
  · have hpb : 0 < p * b := Int.mul_pos hp hb
    by_cases h : lo < hi
    · have h2 : p * lo < p * hi := Int.mul_lt_mul_of_pos_left h hp
      rw [cnt_up hpb (by omega), cnt_up hb h]
      have := div_scale (hi - lo) p b (by omega) (by omega)
      have e : s + p * hi - (s + p * lo) + p * b - 1 = (hi - lo) * p + (p * b) - 1 := by
        rw [Int.sub_mul, Int.mul_comm lo, Int.mul_comm hi]; omega
      rw [e, this]
    · have h2 : ¬ p * lo < p * hi := by
        have := Int.mul_le_mul_of_nonneg_left (c := p) (show hi ≤ lo by omega) (by omega)
        omega
      rw [cnt_up0 hpb (by omega), cnt_up0 hb h]

/-- its bounds: of int32 numbers -/
theorem cnt_bd (f t s : Int) (hs : s ≠ 0) (hs1 : -2147483648 ≤ s) (hs2 : s ≤ 2147483647) (hf1 : -2147483648 ≤ f) (hf2 : f ≤ 2147483647) (ht1 : -2147483648 ≤ t) (ht2 : t ≤ 2147483647) :
    0 ≤ cnt f t s ∧ cnt f t s ≤ 4294967296 ∧ -8589934592 ≤ s * cnt f t s ∧ s * cnt f t s ≤ 8589934592 := by
  rcases Int.lt_or_gt_of_ne hs with h | h
  · by_cases h2 : t < f
    · rw [cnt_down h h2]
      have a := Int.ediv_mul_le (f - t - s - 1) (b := -s) (by omega)
      have b : 0 ≤ (f - t - s - 1) / (-s) := Int.ediv_nonneg (by omega) (by omega)
      have c : (f - t - s - 1) / (-s) ≤ f - t := by
        have e : f - t - s - 1 = (f - t) + (-s) - 1 := by omega
        rw [e, div_shift _ _ (by omega)]
        have := Int.ediv_le_self (a := f - t - 1) (-s) (by omega)
        omega
      generalize (f - t - s - 1) / (-s) = q at *
      rw [Int.mul_neg, Int.mul_comm] at a
      have d : s * q ≤ 0 := Int.mul_nonpos_of_nonpos_of_nonneg (by omega) b
      omega
    · rw [cnt_down0 h h2]; omega
  · by_cases h2 : f < t
    · rw [cnt_up h h2]
      have a := Int.ediv_mul_le (t - f + s - 1) (b := s) (by omega)
      have b : 0 ≤ (t - f + s - 1) / s := Int.ediv_nonneg (by omega) (by omega)
      have c : (t - f + s - 1) / s ≤ t - f := by
        rw [div_shift _ _ (by omega)]
        have := Int.ediv_le_self (a := t - f - 1) s (by omega)
        omega
      generalize (t - f + s - 1) / s = q at *
      rw [Int.mul_comm] at a
      have d : 0 ≤ s * q := Int.mul_nonneg (by omega) b
      omega
    · rw [cnt_up0 h h2]; omega

/-- a place in it times the step -/
theorem place_bd (s n x : Int) (hs1 : -2147483648 ≤ s) (hs2 : s ≤ 2147483647) (h1 : -8589934592 ≤ s * n) (h2 : s * n ≤ 8589934592) (hx1 : -1 ≤ x) (hx2 : x ≤ n) :
    -10737418240 ≤ s * x ∧ s * x ≤ 10737418240 := by
  by_cases h : 0 ≤ s
  · have a := Int.mul_le_mul_of_nonneg_left (c := s) hx2 h
    have b := Int.mul_le_mul_of_nonneg_left (c := s) hx1 h
    omega
  · have a := Int.mul_le_mul_of_nonpos_left (a := s) (by omega) hx2
    have b := Int.mul_le_mul_of_nonpos_left (a := s) (by omega) hx1
    omega
theorem trn_bd (n m : Int) (hm : 0 < m) : 0 ≤ (n.tmod m + m).tmod m ∧ (n.tmod m + m).tmod m < m ∧ -m < n.tmod m ∧ n.tmod m < m := by
  have a := Int.tmod_lt_of_pos n hm
  have b := Int.lt_tmod_of_pos n hm
  exact ⟨Int.tmod_nonneg _ (by omega), Int.tmod_lt_of_pos _ hm, b, a⟩
end Rs

end Go.Proofs.Ythdhkpmfckfjmaa
