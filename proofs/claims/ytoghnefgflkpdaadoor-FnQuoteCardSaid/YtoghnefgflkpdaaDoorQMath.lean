/- The literal of a text, and how it is read back: plain laws. -/
import Derived.Lib.QuoteLoop
import Derived.Lib.MapLaws
import Derived.Lib.ValidU
import Derived.Lib.RuneBytes
namespace Go.Proofs.YtoghnefgflkpdaaDoor
open Go.Lib
set_option linter.unusedVariables false
set_option linter.unusedSimpArgs false

/-- bytes out of numbers -/
def ub (l : List Int) : List UInt8 := l.map fun x => x.toNat.toUInt8
theorem ub_append (a b : List Int) : ub (a ++ b) = ub a ++ ub b := by simp [ub]
/-- the letters behind a backslash, and what they stand for: n r t a b f v quote apostrophe backslash -/
def escN : List UInt8 := [110, 114, 116, 97, 98, 102, 118, 34, 39, 92]
def escV : List UInt8 := [10, 13, 9, 7, 8, 12, 11, 34, 39, 92]
/-- an escape: what stands in the literal, and the bytes that it stands for -/
inductive Esc (b : Bool) : List UInt8 → List UInt8 → Prop where
  | named (k : Nat) (hk : k < 10) : Esc b [92, escN.getD k 0] [escV.getD k 0]
  | x (n : Nat) (h : n < 256) (hb : n ≤ 127 ∨ b = true) : Esc b (92 :: 120 :: ub (hexDigits n 2)) [n.toUInt8]
  | u (n : Nat) (h : n < 65536) (hv : n < 55296 ∨ 57343 < n) : Esc b (92 :: 117 :: ub (hexDigits n 4)) (encodeRune n)
  | uu (n : Nat) (h : n ≤ 1114111) (h2 : 65536 ≤ n) : Esc b (92 :: 85 :: ub (hexDigits n 8)) (encodeRune n)
/-- what a literal's inside is read as -/
inductive Reads (b : Bool) : List UInt8 → List UInt8 → Prop where
  | nil : Reads b [] []
  | one (c : UInt8) (l o : List UInt8) (h1 : c ≠ 34) (h2 : c ≠ 10) (h3 : c ≠ 13) (h4 : c ≠ 92) (h : Reads b l o) : Reads b (c :: l) (c :: o)
  | esc (e p l o : List UInt8) (he : Esc b e p) (h : Reads b l o) : Reads b (e ++ l) (p ++ o)
theorem Reads.plain {b : Bool} : ∀ {cs l o : List UInt8}, (∀ c ∈ cs, c ≠ 34 ∧ c ≠ 10 ∧ c ≠ 13 ∧ c ≠ 92) → Reads b l o → Reads b (cs ++ l) (cs ++ o)
  | [], _, _, _, h => h
  | c :: cs, l, o, hc, h => by
    have h1 := hc c (by simp)
    exact .one c _ _ h1.1 h1.2.1 h1.2.2.1 h1.2.2.2 (Reads.plain (fun x hx => hc x (by simp [hx])) h)

theorem encodeRune_ge (r : Int) (h0 : 128 ≤ r) : ∀ c ∈ encodeRune r, 128 ≤ c.toNat := by
  have key : ∀ x ∈ encodeRuneZ r, 128 ≤ x ∧ x < 256 := by
    intro x hx
    unfold encodeRuneZ at hx
    split at hx
    · omega
    · split at hx
      · simp at hx; omega
      · split at hx
        · simp at hx; omega
        · split at hx
          · simp at hx; omega
          · simp at hx; omega
  intro c hc
  obtain ⟨x, hx, rfl⟩ := List.mem_map.1 hc
  have := key x hx
  have e : (x.toNat.toUInt8).toNat = x.toNat := by
    rw [Nat.toUInt8, UInt8.toNat_ofNat']
    exact Nat.mod_eq_of_lt (by omega)
  rw [e]; omega
theorem decodeL_head (l : List UInt8) (h : l ≠ []) (hlt : (decodeL l).1 < 128) : l.take (decodeL l).2 = [(decodeL l).1.toUInt8] := by
  have hv : ¬ ((decodeL l).1 = 65533 ∧ (decodeL l).2 = 1) := by omega
  rw [← encode_decode l h hv]
  unfold encodeRune
  rw [encodeRuneZ_one (by omega) (by omega)]
  simp
theorem ub_hex2 (n : Nat) : ub [92, 120, hexDigit (n / 16), hexDigit (n % 16)] = 92 :: 120 :: ub (hexDigits (n) 2) ∨ 256 ≤ n := by
  rcases Nat.lt_or_ge n 256 with h | h
  · left
    have e1 : n / 16 ^ 1 % 16 = n / 16 := by omega
    have e2 : n / 16 ^ 0 % 16 = n % 16 := by simp
    simp [ub, hexDigits, e1]
  · right; exact h
/-- one round of the literal's making is read as what it stands for -/
theorem step_reads (T : PrintTabs) (b : Bool) (s : ByteArray) (h0 : 0 < s.size) (hok : b = true ∨ ¬ ((Utf8.decode s 0).2 = 1 ∧ (Utf8.decode s 0).1 = 65533)) (l o : List UInt8) (h : Reads b l o) :
    Reads b (ub (quoteStep T s) ++ l) (s.data.toList.take (Utf8.decode s 0).2 ++ o) := by
  have hd : decodeL s.data.toList = Utf8.decode s 0 := by simpa using decodeL_drop s 0
  have hne : s.data.toList ≠ [] := by intro h; rw [size_eq, h] at h0; simp at h0
  rw [← hd] at hok ⊢
  by_cases hbad : (decodeL s.data.toList).2 = 1 ∧ (decodeL s.data.toList).1 = 65533
  · have hb : b = true := by rcases hok with h | h; exact h; exact absurd hbad h
    have hst := quoteStep_bad T s h0 (by rw [← hd]; exact hbad.1.symm) (by rw [← hd]; exact hbad.2.symm)
    rw [hst, hbad.1]
    have hc : (s[0]'h0).toNat < 256 := UInt8.toNat_lt _
    rcases ub_hex2 (s[0]'h0).toNat with e | e
    · rw [e]
      have e2 : s.data.toList.take 1 = [(s[0]'h0).toNat.toUInt8] := by
        rw [takeA _ (List.length_pos_iff.2 hne)]
        have : s.data.toList.getD 0 0 = s[0]'h0 := by
          rw [List.getD_eq_getElem?_getD, List.getElem?_eq_getElem (by simpa using h0)]
          rfl
        rw [this]; simp
      rw [e2]
      exact .esc _ _ _ _ (.x _ hc (.inr hb)) h
    · omega
  · have hst := quoteStep_good T s (by rw [← hd]; exact hbad)
    rw [hst, ← hd]
    have hbad' : ¬ ((decodeL s.data.toList).1 = 65533 ∧ (decodeL s.data.toList).2 = 1) := fun h => hbad ⟨h.2, h.1⟩
    have henc := encode_decode _ hne hbad'
    have hvr : validRune ((decodeL s.data.toList).1 : Int) = true := by rw [hd]; exact rune_valid s
    have hle : (decodeL s.data.toList).1 ≤ 1114111 := decodeL_rune _
    have hlow := decodeL_head s.data.toList hne
    generalize (decodeL s.data.toList).1 = r at *
    generalize s.data.toList.take (decodeL s.data.toList).2 = p at *
    clear hst hd hbad hbad' hok hne h0
    have hvr2 : r < 55296 ∨ 57343 < r := by
      simp only [validRune, decide_eq_true_eq] at hvr
      omega
    unfold escRune
    by_cases c0 : (r : Int) = 34 ∨ (r : Int) = 92
    · rw [if_pos c0, hlow (by omega)]
      rcases c0 with c | c
      · obtain rfl : r = 34 := by omega
        exact .esc _ _ _ _ (.named 7 (by omega)) h
      · obtain rfl : r = 92 := by omega
        exact .esc _ _ _ _ (.named 9 (by omega)) h
    rw [if_neg c0]
    by_cases c1 : isPrintR T r = true
    · rw [if_pos c1]
      have e : ub (encodeRuneZ (r : Int)) = p := henc
      rw [e]
      refine Reads.plain ?_ h
      intro c hc
      rcases Nat.lt_or_ge r 128 with hr | hr
      · rw [hlow hr] at hc
        simp at hc
        subst hc
        have hp : isPrintLatin (r : Int) = true := by
          have : (r : Int) ≤ 255 := by omega
          simpa [isPrintR, if_pos this] using c1
        have h10 : r ≠ 10 := by rintro rfl; revert hp; decide
        have h13 : r ≠ 13 := by rintro rfl; revert hp; decide
        have key : ∀ k : Nat, k < 128 → r ≠ k → r.toUInt8 ≠ k.toUInt8 := by
          intro k hk hrk he
          have := congrArg UInt8.toNat he
          simp only [Nat.toUInt8, UInt8.toNat_ofNat'] at this
          omega
        exact ⟨key 34 (by omega) (by omega), key 10 (by omega) h10, key 13 (by omega) h13, key 92 (by omega) (by omega)⟩
      · have := encodeRune_ge r (by omega) c (by rw [henc]; exact hc)
        refine ⟨?_, ?_, ?_, ?_⟩ <;> (rintro rfl; revert this; decide)
    rw [if_neg c1]
    by_cases c2 : (r : Int) = 7
    · rw [if_pos c2, hlow (by omega)]; obtain rfl : r = 7 := by omega
      exact .esc _ _ _ _ (.named 3 (by omega)) h
    rw [if_neg c2]
    by_cases c3 : (r : Int) = 8
    · rw [if_pos c3, hlow (by omega)]; obtain rfl : r = 8 := by omega
      exact .esc _ _ _ _ (.named 4 (by omega)) h
    rw [if_neg c3]
    by_cases c4 : (r : Int) = 12
    · rw [if_pos c4, hlow (by omega)]; obtain rfl : r = 12 := by omega
      exact .esc _ _ _ _ (.named 5 (by omega)) h
    rw [if_neg c4]
    by_cases c5 : (r : Int) = 10
    · rw [if_pos c5, hlow (by omega)]; obtain rfl : r = 10 := by omega
      exact .esc _ _ _ _ (.named 0 (by omega)) h
    rw [if_neg c5]
    by_cases c6 : (r : Int) = 13
    · rw [if_pos c6, hlow (by omega)]; obtain rfl : r = 13 := by omega
      exact .esc _ _ _ _ (.named 1 (by omega)) h
    rw [if_neg c6]
    by_cases c7 : (r : Int) = 9
    · rw [if_pos c7, hlow (by omega)]; obtain rfl : r = 9 := by omega
      exact .esc _ _ _ _ (.named 2 (by omega)) h
    rw [if_neg c7]
    by_cases c8 : (r : Int) = 11
    · rw [if_pos c8, hlow (by omega)]; obtain rfl : r = 11 := by omega
      exact .esc _ _ _ _ (.named 6 (by omega)) h
    rw [if_neg c8]
    by_cases c9 : (r : Int) < 32 ∨ (r : Int) = 127
    · rw [if_pos c9, hlow (by omega), Int.toNat_natCast]
      rcases ub_hex2 r with e | e
      · rw [e]
        exact .esc _ _ _ _ (.x r (by omega) (.inl (by omega))) h
      · omega
    rw [if_neg c9]
    have c10 : ¬ validRune (r : Int) = false := by rw [hvr]; simp
    rw [if_neg c10]
    by_cases c11 : (r : Int) < 65536
    · rw [if_pos c11, Int.toNat_natCast, ← henc]
      exact .esc (92 :: 117 :: ub (hexDigits r 4)) _ _ _ (.u r (by omega) hvr2) h
    rw [if_neg c11, Int.toNat_natCast, ← henc]
    exact .esc (92 :: 85 :: ub (hexDigits r 8)) _ _ _ (.uu r hle (by omega)) h
/-- each decoding step of a text meets a character -/
def okFrom : Nat → ByteArray → Prop
  | 0, _ => True
  | f + 1, s => 0 < s.size → ¬ ((Utf8.decode s 0).2 = 1 ∧ (Utf8.decode s 0).1 = 65533) ∧ okFrom f (s.extract (Utf8.decode s 0).2 s.size)
theorem take_drop_data (s : ByteArray) (n : Nat) : s.data.toList.take n ++ (s.extract n s.size).data.toList = s.data.toList := by
  have e : (s.extract n s.size).data.toList = s.data.toList.drop n := by
    simp only [ByteArray.data_extract, Array.toList_extract, List.extract_eq_take_drop]
    exact List.take_of_length_le (by rw [List.length_drop]; simp)
  rw [e, List.take_append_drop]
theorem quote_reads (T : PrintTabs) (b : Bool) : ∀ (f : Nat) (s : ByteArray), s.size ≤ f → (b = true ∨ okFrom f s) → Reads b (ub (quoteFrom T f s)) s.data.toList
  | 0, s, h, _ => by
    have : s.data.toList = [] := List.eq_nil_of_length_eq_zero (by rw [← size_eq]; omega)
    rw [this]; exact .nil
  | f + 1, s, h, hok => by
    by_cases h0 : 0 < s.size
    · have hw := width_pos s 0
      have e : quoteFrom T (f + 1) s = quoteStep T s ++ quoteFrom T f (s.extract (Utf8.decode s 0).2 s.size) := by simp [quoteFrom, h0]
      have ih := quote_reads T b f (s.extract (Utf8.decode s 0).2 s.size) (by rw [size_rest]; omega) (by
        rcases hok with h | h
        · exact .inl h
        · exact .inr (h h0).2)
      have := step_reads T b s h0 (by
        rcases hok with h | h
        · exact .inl h
        · exact .inr (h h0).1) _ _ ih
      rw [e, ub_append]
      rw [take_drop_data] at this
      exact this
    · have e : s.data.toList = [] := List.eq_nil_of_length_eq_zero (by rw [← size_eq]; omega)
      rw [quoteFrom_end T _ s h0, e]
      exact .nil
end Go.Proofs.YtoghnefgflkpdaaDoor
