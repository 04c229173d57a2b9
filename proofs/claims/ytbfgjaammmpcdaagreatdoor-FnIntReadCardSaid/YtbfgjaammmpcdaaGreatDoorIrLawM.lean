/- FnIntRead, plain: digits as a text, in either case of letters, spoilt or not; prefixes; signs. -/
import Derived.Test.YtbfgjaammmpcdaaGreatDoorParseInt
namespace Go.Proofs.YtbfgjaammmpcdaaGreatDoor
open Go.RowKit Dig
set_option linter.unusedVariables false
set_option linter.unusedSimpArgs false

/-- the digits of a number, the highest first; 0 has one -/
def digs (b m : Nat) : List Nat := if m = 0 then [0] else (ldg b m m).reverse
theorem digs_val (b m : Nat) (hb : 2 ≤ b) : hval b (digs b m) = m := by
  unfold digs
  split
  · rename_i h; subst h; simp [hval]
  · rw [hval_reverse, ldg_val b (by omega) m m (Nat.le_refl _)]
theorem digs_lt (b m : Nat) (hb : 2 ≤ b) : ∀ d ∈ digs b m, d < b := by
  intro d hd
  unfold digs at hd
  split at hd
  · simp at hd; omega
  · exact ldg_lt b (by omega) m m d (by simpa using hd)
theorem digs_pos (b m : Nat) (hb : 2 ≤ b) : 0 < (digs b m).length := by
  unfold digs
  split
  · simp
  · rename_i h0
    rw [List.length_reverse]
    rcases Nat.eq_zero_or_pos (ldg b m m).length with h | h
    · have h1 := ldg_val b (by omega) m m (Nat.le_refl _)
      rw [List.eq_nil_of_length_eq_zero h] at h1
      exact absurd h1.symm h0
    · exact h
theorem digs_len (b m k : Nat) (hb : 2 ≤ b) (hm : m < 2 ^ k) (hk : 1 ≤ k) : (digs b m).length ≤ k := by
  unfold digs
  split
  · simpa using hk
  · rw [List.length_reverse]; exact ldg_len b hb m m k hm
/-- the first digit is 0 only where it is the only one -/
theorem digs_first (b m : Nat) (hb : 2 ≤ b) (h : 1 < (digs b m).length) : (digs b m).getD 0 0 ≠ 0 := by
  unfold digs at h ⊢
  split at h
  · simp at h
  · rename_i h0
    rw [if_neg h0]
    have hn := ldg_nrm b (by omega) m m (Nat.le_refl _)
    have hv := ldg_val b (by omega) m m (Nat.le_refl _)
    generalize ldg b m m = xs at *
    have hne : xs ≠ [] := by rintro rfl; simp at h
    unfold Nrm at hn
    rw [List.getLast?_eq_some_getLast hne] at hn
    rw [List.getD_eq_getElem?_getD, ← List.head?_eq_getElem?, List.head?_reverse, List.getLast?_eq_some_getLast hne]
    simpa using hn
theorem get_nat {s : ByteArray} {cur : List Nat} (h : s.data.toList.map UInt8.toNat = cur) {k : Nat} (hk : k < s.size) : (s[k]'hk).toNat = cur.getD k 0 := by
  subst h
  have hk' : k < s.data.toList.length := by simpa using hk
  rw [List.getD_eq_getElem?_getD, List.getElem?_map, List.getElem?_eq_getElem hk']
  simp
  rfl
theorem size_nat {s : ByteArray} {cur : List Nat} (h : s.data.toList.map UInt8.toNat = cur) : s.size = cur.length := by
  subst h; simp
/-- a text of all digits -/
theorem numTxt_all {b m : Nat} {s : ByteArray} {cur : List Nat} (hb : 2 ≤ b) (hb2 : b ≤ 36) (hs : s.data.toList.map UInt8.toNat = cur) (hl : cur.length = (digs b m).length) (hlen : (digs b m).length ≤ 1000000) (hm : m < lim)
    (hd : ∀ k, k < cur.length → IsDig (cur.getD k 0) ((digs b m).getD k 0)) : NumTxt b s (digs b m) := by
  have hsz := size_nat hs
  have hp := digs_pos b m hb
  refine ⟨hb, hb2, by omega, by omega, by omega, ?_, fun h => by omega, by rw [digs_val b m hb]; exact hm⟩
  intro k hk hkd
  refine ⟨by rw [get_nat hs hk]; exact hd k (by omega), ?_⟩
  exact digs_lt b m hb _ (by rw [List.getD_eq_getElem?_getD, List.getElem?_eq_getElem hkd]; simp)
/-- a text with a sign that is none at the place i -/
theorem numTxt_bad {b m i : Nat} {s : ByteArray} {cur : List Nat} (hb : 2 ≤ b) (hb2 : b ≤ 36) (hs : s.data.toList.map UInt8.toNat = cur.set i (sgnOf b)) (hl : cur.length = (digs b m).length) (hi : i < cur.length) (hlen : (digs b m).length ≤ 1000000) (hm : m < lim)
    (hd : ∀ k, k < cur.length → IsDig (cur.getD k 0) ((digs b m).getD k 0)) : NumTxt b s ((digs b m).take i) := by
  have hsz := size_nat hs
  rw [List.length_set] at hsz
  have htl : ((digs b m).take i).length = i := by rw [List.length_take]; omega
  refine ⟨hb, hb2, by omega, by omega, by omega, ?_, ?_, ?_⟩
  · intro k hk hkd
    rw [htl] at hkd
    have e1 : (cur.set i (sgnOf b)).getD k 0 = cur.getD k 0 := by
      rw [List.getD_eq_getElem?_getD, List.getElem?_set_ne (by omega), List.getD_eq_getElem?_getD]
    have e2 : ((digs b m).take i).getD k 0 = (digs b m).getD k 0 := by
      rw [List.getD_eq_getElem?_getD, List.getElem?_take, if_pos hkd, List.getD_eq_getElem?_getD]
    refine ⟨by rw [get_nat hs hk, e1, e2]; exact hd k (by omega), ?_⟩
    rw [e2]
    exact digs_lt b m hb _ (by rw [List.getD_eq_getElem?_getD, List.getElem?_eq_getElem (by omega)]; simp)
  · intro h
    rw [get_nat hs h, htl, List.getD_eq_getElem?_getD, List.getElem?_set_self (by omega)]
    rfl
  · have := hval_take_le (B := b) (by omega) (digs b m) i
    rw [digs_val b m hb] at this
    omega
/-- the first sign of either text -/
theorem first_all {b m : Nat} {s : ByteArray} {cur : List Nat} (hb : 2 ≤ b) (hs : s.data.toList.map UInt8.toNat = cur) (hl : cur.length = (digs b m).length) (hd : ∀ k, k < cur.length → IsDig (cur.getD k 0) ((digs b m).getD k 0)) (h0 : 0 < s.size) : s.size = 1 ∨ (s[0]'h0).toNat ≠ 48 := by
  have hsz := size_nat hs
  by_cases h1 : s.size = 1
  · exact .inl h1
  · right
    rw [get_nat hs h0]
    intro e
    have := (hd 0 (by omega)).zero.1 e
    exact digs_first b m hb (by omega) this
theorem sgnOf_base {b : Nat} (hb : 2 ≤ b) : sgnOf b ≠ 48 ∧ sgnOf b ≠ 43 ∧ sgnOf b ≠ 45 := by
  unfold sgnOf; split <;> omega
theorem first_bad {b m i : Nat} {s : ByteArray} {cur : List Nat} (hb : 2 ≤ b) (hs : s.data.toList.map UInt8.toNat = cur.set i (sgnOf b)) (hl : cur.length = (digs b m).length) (hd : ∀ k, k < cur.length → IsDig (cur.getD k 0) ((digs b m).getD k 0)) (h0 : 0 < s.size) (hi : i < cur.length) : s.size = 1 ∨ (s[0]'h0).toNat ≠ 48 := by
  have hsz := size_nat hs
  rw [List.length_set] at hsz
  by_cases h1 : s.size = 1
  · exact .inl h1
  · right
    rw [get_nat hs h0]
    by_cases hi0 : i = 0
    · subst hi0
      rw [List.getD_eq_getElem?_getD, List.getElem?_set_self (by omega)]
      exact (sgnOf_base hb).1
    · rw [List.getD_eq_getElem?_getD, List.getElem?_set_ne (by omega), ← List.getD_eq_getElem?_getD]
      intro e
      have := (hd 0 (by omega)).zero.1 e
      exact digs_first b m hb (by omega) this
/-- behind what was set ahead of it, a text is itself -/
theorem extract_tail (a b : ByteArray) (n : Nat) (hn : a.size = n) : (a ++ b).extract n (a ++ b).size = b := by
  subst hn
  apply ByteArray.ext
  simp [ByteArray.size_append]
  have h1 : a.data.extract a.data.size (a.data.size + b.data.size) = #[] := by
    apply Array.eq_empty_of_size_eq_zero
    rw [Array.size_extract]
    omega
  have h2 : b.data.extract 0 b.data.size = b.data := Array.extract_size
  have h3 : a.data.extract a.data.size (a.data.size + b.data.size) ++ b.data.extract 0 b.data.size = b.data := by rw [h1, h2, Array.empty_append]
  exact h3
theorem get_head (a b : ByteArray) (k : Nat) (h : k < a.size) (h2 : k < (a ++ b).size) : (a ++ b)[k]'h2 = a[k]'h := by
  exact ByteArray.getElem_append_left h
/-- no prefix -/
theorem pfx_none {R : ByteArray} {a b : Nat} (h0 : 0 < R.size) (hm : R.size ≤ 1000000) (hf : R.size = 1 ∨ (R[0]'h0).toNat ≠ 48) (ha : a = b ∨ (a = 0 ∧ b = 10)) : PfxTxt R a b R (R[0]'h0).toNat :=
  ⟨h0, hm, rfl, .inl ⟨hf, rfl, ha⟩⟩
def pfxOf (b : Nat) : ByteArray := if b = 2 then ⟨#[48, 98]⟩ else if b = 8 then ⟨#[48, 111]⟩ else if b = 16 then ⟨#[48, 120]⟩ else ⟨#[]⟩
theorem pfx_some {body : ByteArray} {a b : Nat} (hb : b = 2 ∨ b = 8 ∨ b = 16) (h0 : 0 < body.size) (hm : body.size ≤ 999998) (ha : a = b ∨ a = 0) : PfxTxt (pfxOf b ++ body) a b body 48 := by
  have h2 : (pfxOf b).size = 2 := by rcases hb with rfl | rfl | rfl <;> rfl
  have hsz : (pfxOf b ++ body).size = 2 + body.size := by rw [ByteArray.size_append, h2]
  refine ⟨by omega, by omega, ?_, .inr ⟨by omega, rfl, extract_tail _ _ _ h2, ha, by omega, ?_⟩⟩
  · rw [get_head _ _ 0 (by omega)]
    rcases hb with rfl | rfl | rfl <;> rfl
  · rw [get_head _ _ 1 (by omega)]
    rcases hb with rfl | rfl | rfl
    · exact .inl ⟨rfl, rfl⟩
    · exact .inr (.inl ⟨rfl, rfl⟩)
    · exact .inr (.inr ⟨rfl, rfl⟩)
theorem sgn_minus {R : ByteArray} (hm : R.size ≤ 999999) : SgnTxt (⟨#[45]⟩ ++ R) true R 45 := by
  have hsz : ((⟨#[45]⟩ : ByteArray) ++ R).size = 1 + R.size := by rw [ByteArray.size_append]; rfl
  refine ⟨by omega, by omega, ?_, .inl ⟨rfl, rfl, extract_tail _ _ _ rfl⟩⟩
  rw [get_head _ _ 0 (by decide)]; rfl
theorem sgn_plus {R : ByteArray} (hm : R.size ≤ 999999) : SgnTxt (⟨#[43]⟩ ++ R) false R 43 := by
  have hsz : ((⟨#[43]⟩ : ByteArray) ++ R).size = 1 + R.size := by rw [ByteArray.size_append]; rfl
  refine ⟨by omega, by omega, ?_, .inr (.inl ⟨rfl, rfl, extract_tail _ _ _ rfl⟩)⟩
  rw [get_head _ _ 0 (by decide)]; rfl
theorem sgn_none {R body : ByteArray} {a b y : Nat} {ds : List Nat} (hp : PfxTxt R a b body y) (ht : NumTxt b body ds) : SgnTxt R false R y := by
  refine ⟨hp.pos, hp.max, hp.fst, .inr (.inr ?_)⟩
  rcases hp.cas with ⟨_, h, _⟩ | ⟨_, h, _⟩
  · have := ht.first y (by subst h; exact hp.fst)
    exact ⟨this.1, this.2, rfl, rfl⟩
  · exact ⟨by omega, by omega, rfl, rfl⟩
end Go.Proofs.YtbfgjaammmpcdaaGreatDoor
