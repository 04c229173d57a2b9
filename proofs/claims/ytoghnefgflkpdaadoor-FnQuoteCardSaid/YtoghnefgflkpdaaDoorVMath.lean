/- A text with a question mark in the place of each byte that is no part of UTF-8: each decoding step of it meets a character. -/
import Derived.Test.YtoghnefgflkpdaaDoorQMath
import Derived.Lib.TrimAscii
namespace Go.Proofs.YtoghnefgflkpdaaDoor
open Go.Lib
set_option linter.unusedVariables false
set_option linter.unusedSimpArgs false

theorem getD_app (q t : List UInt8) (i : Nat) (h : i < q.length) : (q ++ t).getD i 0 = q.getD i 0 := by
  simp only [List.getD_eq_getElem?_getD]
  rw [List.getElem?_append_left h]
theorem getD_take (l : List UInt8) (w i : Nat) (h : i < w) : (l.take w).getD i 0 = l.getD i 0 := by
  simp only [List.getD_eq_getElem?_getD]
  rw [List.getElem?_take, if_pos h]
/-- what a character is does not hang on what follows -/
theorem dec_chunk (l t : List UInt8) (hne : l ≠ []) (hv : ¬ ((decodeL l).1 = 65533 ∧ (decodeL l).2 = 1)) : decodeL (l.take (decodeL l).2 ++ t) = decodeL l := by
  have hle := decodeL_le l hne
  have hln : (l.take (decodeL l).2).length = (decodeL l).2 := by rw [List.length_take]; omega
  have hsh := decodeN_shape l.length (l.getD 0 0).toNat (l.getD 1 0).toNat (l.getD 2 0).toNat (l.getD 3 0).toNat
  rw [← decodeL_N] at hsh
  have hg : ∀ i, i < (decodeL l).2 → ((l.take (decodeL l).2 ++ t).getD i 0).toNat = (l.getD i 0).toNat := fun i hi => by
    rw [getD_app _ _ _ (by rw [hln]; exact hi), getD_take _ _ _ hi]
  have hlen : (decodeL l).2 ≤ (l.take (decodeL l).2 ++ t).length := by rw [List.length_append, hln]; omega
  rw [decodeL_N (l.take (decodeL l).2 ++ t)]
  generalize (l.take (decodeL l).2 ++ t).length = n' at *
  rcases hsh with ⟨h1, h2⟩ | ⟨h1, h2, h3, h4, h5⟩ | ⟨h1, h2, h3, h4, h5, h6, h7⟩ | ⟨h1, h2, h3, h4, h5, h6, h7, h8⟩ | h1
  · rw [h2] at hg hlen ⊢
    simp only at hg hlen
    rw [hg 0 (by omega), decodeN_ascii _ _ _ _ _ h1]
  · rw [h5] at hg hlen ⊢
    simp only at hg hlen
    rw [hg 0 (by omega), hg 1 (by omega)]
    unfold decodeN
    rw [if_neg (by omega), if_pos (by omega), if_pos (by omega)]
  · rw [h7] at hg hlen ⊢
    simp only at hg hlen
    rw [hg 0 (by omega), hg 1 (by omega), hg 2 (by omega)]
    unfold decodeN
    rw [if_neg (by omega), if_neg (by omega), if_pos (by omega), if_pos (by omega)]
  · rw [h8] at hg hlen ⊢
    simp only at hg hlen
    rw [hg 0 (by omega), hg 1 (by omega), hg 2 (by omega), hg 3 (by omega)]
    unfold decodeN
    rw [if_neg (by omega), if_neg (by omega), if_neg (by omega), if_pos (by omega), if_pos (by omega)]
  · rw [h1] at hv; simp at hv
/-- the text with question marks -/
def vlF : Nat → List UInt8 → List UInt8
  | 0, _ => []
  | f + 1, l => if l = [] then [] else if (decodeL l).1 = 65533 ∧ (decodeL l).2 < 2 then 63 :: vlF f (l.drop (decodeL l).2) else l.take (decodeL l).2 ++ vlF f (l.drop (decodeL l).2)
theorem vl_more : ∀ (f f' : Nat) (l : List UInt8), l.length ≤ f → l.length ≤ f' → vlF f l = vlF f' l
  | 0, 0, _, _, _ => rfl
  | 0, f' + 1, l, h, _ => by
    have : l = [] := List.eq_nil_of_length_eq_zero (by omega)
    subst this; simp [vlF]
  | f + 1, 0, l, _, h => by
    have : l = [] := List.eq_nil_of_length_eq_zero (by omega)
    subst this; simp [vlF]
  | f + 1, f' + 1, l, h, h' => by
    unfold vlF
    by_cases hne : l = []
    · simp [hne]
    · have hw := decodeL_width l
      rw [if_neg hne, if_neg hne, vl_more f f' (l.drop (decodeL l).2) (by rw [List.length_drop]; omega) (by rw [List.length_drop]; omega)]
def vl (l : List UInt8) : List UInt8 := vlF l.length l
theorem vl_nil : vl [] = [] := rfl
theorem vl_bad (l : List UInt8) (hne : l ≠ []) (h : (decodeL l).1 = 65533 ∧ (decodeL l).2 < 2) : vl l = 63 :: vl (l.drop (decodeL l).2) := by
  have hw := decodeL_width l
  have hl : 0 < l.length := List.length_pos_iff.2 hne
  obtain ⟨n, hn⟩ : ∃ n, l.length = n + 1 := ⟨l.length - 1, by omega⟩
  unfold vl
  rw [hn]
  conv => lhs; unfold vlF
  rw [if_neg hne, if_pos h, vl_more n (l.drop (decodeL l).2).length _ (by rw [List.length_drop]; omega) (Nat.le_refl _)]
theorem vl_good (l : List UInt8) (hne : l ≠ []) (h : ¬ ((decodeL l).1 = 65533 ∧ (decodeL l).2 < 2)) : vl l = l.take (decodeL l).2 ++ vl (l.drop (decodeL l).2) := by
  have hw := decodeL_width l
  have hl : 0 < l.length := List.length_pos_iff.2 hne
  obtain ⟨n, hn⟩ : ∃ n, l.length = n + 1 := ⟨l.length - 1, by omega⟩
  unfold vl
  rw [hn]
  conv => lhs; unfold vlF
  rw [if_neg hne, if_neg h, vl_more n (l.drop (decodeL l).2).length _ (by rw [List.length_drop]; omega) (Nat.le_refl _)]
theorem extract_mk (q t : List UInt8) : (⟨(q ++ t).toArray⟩ : ByteArray).extract q.length (⟨(q ++ t).toArray⟩ : ByteArray).size = ⟨t.toArray⟩ := by
  apply ByteArray.ext
  apply Array.ext'
  have e : ((⟨(q ++ t).toArray⟩ : ByteArray).extract q.length (⟨(q ++ t).toArray⟩ : ByteArray).size).data.toList = (q ++ t).drop q.length := by
    simp only [ByteArray.data_extract, Array.toList_extract, List.extract_eq_take_drop]
    exact List.take_of_length_le (by rw [List.length_drop, size_eq]; exact Nat.le_refl _)
  rw [e, List.drop_left]
theorem vl_length : ∀ (n : Nat) (l : List UInt8), l.length ≤ n → (vl l).length ≤ l.length
  | 0, l, h => by
    have : l = [] := List.eq_nil_of_length_eq_zero (by omega)
    subst this; simp [vl_nil]
  | n + 1, l, h => by
    by_cases hne : l = []
    · subst hne; simp [vl_nil]
    · have hw := decodeL_width l
      have hle := decodeL_le l hne
      have ih := vl_length n (l.drop (decodeL l).2) (by rw [List.length_drop]; omega)
      rw [List.length_drop] at ih
      by_cases hb : (decodeL l).1 = 65533 ∧ (decodeL l).2 < 2
      · rw [vl_bad l hne hb, List.length_cons]; omega
      · rw [vl_good l hne hb, List.length_append, List.length_take]; omega
theorem vl_ok : ∀ (n f : Nat) (l : List UInt8), l.length ≤ n → okFrom f ⟨(vl l).toArray⟩
  | _, 0, _, _ => trivial
  | 0, f + 1, l, h => by
    have : l = [] := List.eq_nil_of_length_eq_zero (by omega)
    subst this
    intro h0
    simp [vl_nil, ByteArray.size] at h0
  | n + 1, f + 1, l, h => by
    intro h0
    by_cases hne : l = []
    · subst hne; simp [vl_nil, ByteArray.size] at h0
    · have hw := decodeL_width l
      have ih := vl_ok n f (l.drop (decodeL l).2) (by rw [List.length_drop]; omega)
      by_cases hb : (decodeL l).1 = 65533 ∧ (decodeL l).2 < 2
      · have e := vl_bad l hne hb
        have ed : Utf8.decode ⟨(vl l).toArray⟩ 0 = (63, 1) := by
          rw [e]
          exact decodeL_ascii 63 _ (by decide)
        rw [ed]
        refine ⟨by simp, ?_⟩
        have ex := extract_mk [63] (vl (l.drop (decodeL l).2))
        rw [e]
        simp only [List.singleton_append, List.length_singleton] at ex
        rw [ex]
        exact ih
      · have hv : ¬ ((decodeL l).1 = 65533 ∧ (decodeL l).2 = 1) := fun h => hb ⟨h.1, by omega⟩
        have e := vl_good l hne hb
        have hle := decodeL_le l hne
        have ed : Utf8.decode ⟨(vl l).toArray⟩ 0 = decodeL l := by
          rw [e]
          exact dec_chunk l _ hne hv
        rw [ed]
        refine ⟨fun h => hv ⟨h.2, h.1⟩, ?_⟩
        have ex := extract_mk (l.take (decodeL l).2) (vl (l.drop (decodeL l).2))
        rw [e]
        have hln : (l.take (decodeL l).2).length = (decodeL l).2 := by rw [List.length_take]; omega
        rw [hln] at ex
        rw [ex]
        exact ih
end Go.Proofs.YtoghnefgflkpdaaDoor
