/- The text that bytes are, with U+FFFD for each byte that is no part of a character: plain laws. -/
import Derived.Lib.MapLaws
import Derived.Lib.ValidU
import Derived.Lib.RuneBytes
namespace Go.Proofs.YtocobkjmbngjgaaDoor
set_option linter.unusedVariables false
set_option linter.unusedSimpArgs false

/-- what str makes of bytes -/
def tr (l : List UInt8) : List UInt8 := Lib.mapD (fun r => r) l
theorem tr_nil : tr [] = [] := rfl
theorem tr_step (l : List UInt8) (h : l ≠ []) : tr l = Lib.encodeRune ((Lib.decodeL l).1 : Int) ++ tr (l.drop (Lib.decodeL l).2) := by
  unfold tr
  rw [Lib.mapD_step _ l h, if_pos (by omega)]
theorem tr_valid : ∀ (n : Nat) (l : List UInt8), Lib.validGoD n l = true → l.length ≤ n → tr l = l
  | 0, l, _, h => by
    have : l = [] := List.eq_nil_of_length_eq_zero (by omega)
    subst this; rfl
  | n + 1, l, hv, h => by
    by_cases hne : l = []
    · subst hne; rfl
    · simp only [Lib.validGoD, if_neg hne] at hv
      by_cases hb : (Lib.decodeL l).1 = 65533 ∧ (Lib.decodeL l).2 = 1
      · simp [hb] at hv
      · rw [if_neg hb] at hv
        have hw := Lib.decodeL_width l
        have hl : 0 < l.length := List.length_pos_iff.2 hne
        have e := Lib.mapD_same (fun r => r) l hne rfl hb
        have ih := tr_valid n _ hv (by rw [List.length_drop]; omega)
        unfold tr at ih ⊢
        rw [e, ih, List.take_append_drop]
theorem tr_of_valid (l : List UInt8) (h : Lib.validD l = true) : tr l = l := tr_valid l.length l h (Nat.le_refl _)

theorem ofNat_toUInt8 (n : Nat) (x : Int) (h : x = (n : Int)) : UInt8.ofNat n = x.toNat.toUInt8 := by
  subst h; rfl
theorem encode_eq (r : Int) : (Utf8.encode r).data.toList = Lib.encodeRune r := by
  unfold Utf8.encode Lib.encodeRune
  by_cases hv : Utf8.valid r = true
  · have h0 : 0 ≤ r := by unfold Utf8.valid at hv; simp at hv; omega
    obtain ⟨n, rfl⟩ := Int.eq_ofNat_of_zero_le h0
    simp only [if_pos hv, Int.toNat_natCast]
    have hr : n < 55296 ∨ (57344 ≤ n ∧ n ≤ 1114111) := by unfold Utf8.valid at hv; simp at hv; omega
    by_cases h1 : n < 128
    · rw [if_pos h1, Lib.encodeRuneZ_one (by omega) (by omega)]
      simp only [List.map_cons, List.map_nil]
      rw [ofNat_toUInt8 n n rfl]
    · by_cases h2 : n < 2048
      · rw [if_neg (by omega), if_pos h2, Lib.encodeRuneZ_two (by omega) (by omega)]
        simp only [List.map_cons, List.map_nil]
        rw [ofNat_toUInt8 (192 + n / 64) (192 + (n : Int) / 64) (by omega), ofNat_toUInt8 (128 + n % 64) (128 + (n : Int) % 64) (by omega)]
      · by_cases h3 : n < 65536
        · rw [if_neg (by omega), if_neg (by omega), if_pos h3, Lib.encodeRuneZ_three (by omega)]
          simp only [List.map_cons, List.map_nil]
          rw [ofNat_toUInt8 (224 + n / 4096) (224 + (n : Int) / 4096) (by omega), ofNat_toUInt8 (128 + n / 64 % 64) (128 + (n : Int) / 64 % 64) (by omega), ofNat_toUInt8 (128 + n % 64) (128 + (n : Int) % 64) (by omega)]
        · rw [if_neg (by omega), if_neg (by omega), if_neg (by omega), Lib.encodeRuneZ_four (by omega) (by omega)]
          simp only [List.map_cons, List.map_nil]
          rw [ofNat_toUInt8 (240 + n / 262144) (240 + (n : Int) / 262144) (by omega), ofNat_toUInt8 (128 + n / 4096 % 64) (128 + (n : Int) / 4096 % 64) (by omega), ofNat_toUInt8 (128 + n / 64 % 64) (128 + (n : Int) / 64 % 64) (by omega), ofNat_toUInt8 (128 + n % 64) (128 + (n : Int) % 64) (by omega)]
  · have hr : r < 0 ∨ (55296 ≤ r ∧ r ≤ 57343) ∨ 1114111 < r := by unfold Utf8.valid at hv; simp at hv; omega
    simp only [if_neg hv, Utf8.runeError]
    rw [Lib.encodeRuneZ_bad hr]
    rfl
end Go.Proofs.YtocobkjmbngjgaaDoor
