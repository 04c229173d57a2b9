/- spec.escape at the escapes of two, four and eight digits (printed by genunq.py). -/
import Derived.Test.YtoghnefgflkpdaaDoorUnq2
namespace Go.Proofs.YtoghnefgflkpdaaDoor
open Go.RowKit
set_option linter.unusedVariables false
set_option linter.unusedSimpArgs false
set_option maxRecDepth 1000000

theorem hexDigit_or : ∀ x, x < 16 → bits BinOp.or IntKind.u8 (Lib.hexDigit x) 32 = Lib.hexDigit x := by decide
theorem hexDigit_bd : ∀ x, x < 16 → 48 ≤ Lib.hexDigit x ∧ Lib.hexDigit x ≤ 102 := by decide
theorem place_hex_ne : ∀ d, d < 16 → ∀ k, k < d → ((({ data := #[48, 49, 50, 51, 52, 53, 54, 55, 56, 57, 97, 98, 99, 100, 101, 102] } : ByteArray).extract k (k + 1)).toList == (strOfNums [Lib.hexDigit d]).toList) = false := by decide +kernel
theorem place_hex_eq : ∀ d, d < 16 → ((({ data := #[48, 49, 50, 51, 52, 53, 54, 55, 56, 57, 97, 98, 99, 100, 101, 102] } : ByteArray).extract d (d + 1)).toList == (strOfNums [Lib.hexDigit d]).toList) = true := by decide +kernel
theorem place_hex (d : Nat) (hd : d < 16) (w : World) :
    Calls Tryd.prog 11 #[.string ({ data := #[48, 49, 50, 51, 52, 53, 54, 55, 56, 57, 97, 98, 99, 100, 101, 102] } : ByteArray), .string (strOfNums [Lib.hexDigit d])] w fun e w' => e = .returned (.int .i64 (d : Int)) ∧ w' = w :=
  place_any _ _ d w rfl (by decide) hd (place_hex_ne d hd) (place_hex_eq d hd)
theorem EscOut.from {p : List UInt8} {n : Nat} {w w1 w' : World} {e : Ending} (h : EscOut p n w1 e w') (hb : Below w.heap.size w w1) : EscOut p n w e w' := by
  obtain ⟨v, h1, h2, h3⟩ := h
  exact ⟨v, h1, h2, hb.trans (h3.mono hb.size)⟩
theorem esc_other (c : Nat) (h : c = 120 ∨ c = 117 ∨ c = 85) : ∀ j (hj : j < ({ data := #[110, 114, 116, 97, 98, 102, 118, 34, 39, 92] } : ByteArray).size), ((c : Int) == (((({ data := #[110, 114, 116, 97, 98, 102, 118, 34, 39, 92] } : ByteArray)[j]'hj).toNat : Nat) : Int)) = false := by
  have key : ∀ c ∈ [120, 117, 85], ∀ j, j < 10 → (({ data := #[110, 114, 116, 97, 98, 102, 118, 34, 39, 92] } : ByteArray).data.toList.getD j 0).toNat ≠ c := by decide
  intro j hj
  rw [getElem_getD, beq_eq_false_iff_ne]
  have := key c (by simp; omega) j hj
  omega

set_option maxHeartbeats 3200000 in
theorem escape_x (b : Bool) (n c : Nat) (s : ByteArray) (w : World) (hn : n < 256) (hb : n ≤ 127 ∨ b = true) (h2s : 4 ≤ s.size) (hs : s.size ≤ 140737488355328) (hc : (s[1]'(by omega)).toNat = c) (hcL : c = 120)
    (hdig : ∀ i (hi : i < s.size), 2 ≤ i → i < 4 → (((s[i]'hi).toNat : Nat) : Int) = Lib.hexDigit (n / 16 ^ (3 - i) % 16)) :
    Calls Tryd.prog 7 #[.string s, .bool b] w (EscOut [n.toUInt8] 4 w) := by
  have OTH := Lib.hid (esc_other c (by omega))
  have hc256 : c < 256 := by omega
  have q120 : ((c : Int) == 120) = true := by rw [hcL]; decide
  have q117 : ((c : Int) == 117) = false := by rw [hcL]; decide
  have q85 : ((c : Int) == 85) = false := by rw [hcL]; decide
  have h2I : (4 : Int) ≤ (s.size : Int) := by omega
  have HCO : Hid (∀ W, Below w.heap.size w W → Calls Tryd.prog 12 #[.int .i64 (n : Int), .bool true, .bool b, .int .i64 4] W (EscOut [n.toUInt8] 4 w)) := Lib.hid (fun W hb' => (coded_one n b 4 _ hn hb).mono (fun e w' h => h.from hb'))
  have hnb : n < 16 ^ 2 := by first | exact hn | omega
  have HD := Lib.hid hdig; have HN := Lib.hid hnb
  clear hcL hdig hn hnb hb
  generalize hV : [n.toUInt8] = V at *
  clear hV
  go_enter Tryd.func7, Tryd.ntmps7
  go_wp2_with fail
  go_loopw [6] (fun i wr => ∃ j m : Nat, j ≤ 10 ∧ i = .int .i64 j ∧ wr = w.drewN m) (fun i _ => 10 - (intOf i).toNat)
  case atStart => exact ⟨0, 0, Nat.zero_le _, rfl, rfl⟩
  case round =>
    obtain ⟨j, m, hj, rfl, rfl⟩ := hrel
    by_cases hlt : j < 10
    · have hj10 : j < ({ data := #[110, 114, 116, 97, 98, 102, 118, 34, 39, 92] } : ByteArray).size := hlt
      have hjI : (j : Int) < 10 := by omega
      have hne := OTH.out j hj10
      go_wp2_with fail
      go_quiet (fail)
      go_wp2_with fail
      go_roundw
      case rel => exact ⟨j + 1, _, by omega, by go_num, rfl⟩
      case measure => simp [intOf]; omega
    · have hjI : ¬ (j : Int) < 10 := by omega
      clear OTH
      go_wp2_with fail
      go_loopw [8, 9, 10] (fun v i d wr => ∃ i' N : Nat, 2 ≤ i' ∧ i' ≤ 4 ∧ i = .int .i64 i' ∧ v = .int .i64 N ∧ Hid (N = n / 16 ^ (4 - i')) ∧ Hid (Below w.heap.size w wr)) (fun _ i _ _ => 4 - (intOf i).toNat)
      case atStart => exact ⟨2, 0, Nat.le_refl _, by omega, rfl, rfl, Lib.hid (Nat.div_eq_of_lt HN.out).symm, Lib.hid (Below.dn (Below.refl _ _) _)⟩
      case round =>
        obtain ⟨i, N, hi2, hiT, rfl, rfl, hN, hB⟩ := hrel
        by_cases hlt2 : i < 4
        · have hiI : (i : Int) < 4 := by omega
          have hiI0 : (0 : Int) ≤ (i : Int) := by omega
          have his : i < s.size := by omega
          have hisI : (i : Int) < (s.size : Int) := by omega
          obtain ⟨E, hE⟩ : ∃ E, E = 3 - i := ⟨_, rfl⟩
          obtain ⟨d, hd⟩ : ∃ d, d = n / 16 ^ E % 16 := ⟨_, rfl⟩
          have hd16 : d < 16 := by omega
          have hdI : (0 : Int) ≤ (d : Int) := by omega
          have hN2 : N * 16 + d = n / 16 ^ E := by
            rw [hN.out, show 4 - i = E + 1 by omega, Nat.pow_succ, ← Nat.div_div_eq_div_mul, hd]; omega
          have hNle : N ≤ 268435455 := by
            have h0 := HN.out
            have h3 := Nat.div_le_self n (16 ^ E)
            omega
          have hNI : (N : Int) ≤ 268435455 := by omega
          have hNI0 : (0 : Int) ≤ (N : Int) := by omega
          have hdI2 : (d : Int) ≤ 15 := by omega
          have hx := HD.out i his hi2 hlt2
          rw [← hE, ← hd] at hx
          obtain ⟨h, hh⟩ : ∃ h : Int, h = Lib.hexDigit d := ⟨_, rfl⟩
          have hbd := hexDigit_bd d hd16
          have hor := hexDigit_or d hd16
          have PL := Lib.hid (place_hex d hd16)
          rw [← hh] at hx hbd hor PL
          have hbd1 : 0 ≤ h := by omega
          have hbd2 : h ≤ 255 := by omega
          have hcv := run_convert_bytes_arg (P := Tryd.prog) (wr.alloc (.cells #[.int .u8 h] 5)) 27 5 Tryd.underlying27 Tryd.underlying5 wr.heap.size 0 1 1 [h] rfl (by intro i hi; simp at hi; subst hi; simp) 9 Tryd.underlying9
          have HB2 := Lib.hid (hB.out.alloc hB.out.size (.cells #[.int .u8 h] 5))
          have HN2 := Lib.hid hN2; have HE := Lib.hid hE
          clear hd hh hE hN2 hN hbd
          go_wp2_with (go_at_call 11; refine (PL.out _).mono ?_; rintro e w1 ⟨rfl, rfl⟩)
          go_roundw
          case rel => exact ⟨i + 1, N * 16 + d, by omega, by omega, by go_num, by go_num, Lib.hid (by rw [HN2.out, HE.out]; congr 2; omega), HB2⟩
          case measure => simp [intOf]; omega
        · have hiI : ¬ (i : Int) < 4 := by omega
          obtain rfl : i = 4 := by omega
          obtain rfl : N = n := by have := hN.out; simpa using this
          have C := Lib.hid (HCO.out wr hB.out)
          clear HD HN hN hB HCO
          go_wp2_with (go_at_call 12; refine C.out.mono ?_; rintro e w1 ⟨v, rfl, h1, h2⟩)
          go_ret2
          exact ⟨v, rfl, h1, h2⟩

set_option maxHeartbeats 3200000 in
theorem escape_u (b : Bool) (n c : Nat) (s : ByteArray) (w : World) (hn : n < 65536) (hv : n < 55296 ∨ 57343 < n) (h2s : 6 ≤ s.size) (hs : s.size ≤ 140737488355328) (hc : (s[1]'(by omega)).toNat = c) (hcL : c = 117)
    (hdig : ∀ i (hi : i < s.size), 2 ≤ i → i < 6 → (((s[i]'hi).toNat : Nat) : Int) = Lib.hexDigit (n / 16 ^ (5 - i) % 16)) :
    Calls Tryd.prog 7 #[.string s, .bool b] w (EscOut (Lib.encodeRune (n : Int)) 6 w) := by
  have OTH := Lib.hid (esc_other c (by omega))
  have hc256 : c < 256 := by omega
  have q120 : ((c : Int) == 120) = false := by rw [hcL]; decide
  have q117 : ((c : Int) == 117) = true := by rw [hcL]; decide
  have q85 : ((c : Int) == 85) = false := by rw [hcL]; decide
  have h2I : (6 : Int) ≤ (s.size : Int) := by omega
  have HCO : Hid (∀ W, Below w.heap.size w W → Calls Tryd.prog 12 #[.int .i64 (n : Int), .bool false, .bool b, .int .i64 6] W (EscOut (Lib.encodeRune (n : Int)) 6 w)) := Lib.hid (fun W hb' => (coded_rune n b 6 _ (by omega) hv).mono (fun e w' h => h.from hb'))
  have hnb : n < 16 ^ 4 := by first | exact hn | omega
  have HD := Lib.hid hdig; have HN := Lib.hid hnb
  clear hcL hdig hn hnb hv
  generalize hV : (Lib.encodeRune (n : Int)) = V at *
  clear hV
  go_enter Tryd.func7, Tryd.ntmps7
  go_wp2_with fail
  go_loopw [6] (fun i wr => ∃ j m : Nat, j ≤ 10 ∧ i = .int .i64 j ∧ wr = w.drewN m) (fun i _ => 10 - (intOf i).toNat)
  case atStart => exact ⟨0, 0, Nat.zero_le _, rfl, rfl⟩
  case round =>
    obtain ⟨j, m, hj, rfl, rfl⟩ := hrel
    by_cases hlt : j < 10
    · have hj10 : j < ({ data := #[110, 114, 116, 97, 98, 102, 118, 34, 39, 92] } : ByteArray).size := hlt
      have hjI : (j : Int) < 10 := by omega
      have hne := OTH.out j hj10
      go_wp2_with fail
      go_quiet (fail)
      go_wp2_with fail
      go_roundw
      case rel => exact ⟨j + 1, _, by omega, by go_num, rfl⟩
      case measure => simp [intOf]; omega
    · have hjI : ¬ (j : Int) < 10 := by omega
      clear OTH
      go_wp2_with fail
      go_loopw [8, 9, 10] (fun v i d wr => ∃ i' N : Nat, 2 ≤ i' ∧ i' ≤ 6 ∧ i = .int .i64 i' ∧ v = .int .i64 N ∧ Hid (N = n / 16 ^ (6 - i')) ∧ Hid (Below w.heap.size w wr)) (fun _ i _ _ => 6 - (intOf i).toNat)
      case atStart => exact ⟨2, 0, Nat.le_refl _, by omega, rfl, rfl, Lib.hid (Nat.div_eq_of_lt HN.out).symm, Lib.hid (Below.dn (Below.refl _ _) _)⟩
      case round =>
        obtain ⟨i, N, hi2, hiT, rfl, rfl, hN, hB⟩ := hrel
        by_cases hlt2 : i < 6
        · have hiI : (i : Int) < 6 := by omega
          have hiI0 : (0 : Int) ≤ (i : Int) := by omega
          have his : i < s.size := by omega
          have hisI : (i : Int) < (s.size : Int) := by omega
          obtain ⟨E, hE⟩ : ∃ E, E = 5 - i := ⟨_, rfl⟩
          obtain ⟨d, hd⟩ : ∃ d, d = n / 16 ^ E % 16 := ⟨_, rfl⟩
          have hd16 : d < 16 := by omega
          have hdI : (0 : Int) ≤ (d : Int) := by omega
          have hN2 : N * 16 + d = n / 16 ^ E := by
            rw [hN.out, show 6 - i = E + 1 by omega, Nat.pow_succ, ← Nat.div_div_eq_div_mul, hd]; omega
          have hNle : N ≤ 268435455 := by
            have h0 := HN.out
            have h3 := Nat.div_le_self n (16 ^ E)
            omega
          have hNI : (N : Int) ≤ 268435455 := by omega
          have hNI0 : (0 : Int) ≤ (N : Int) := by omega
          have hdI2 : (d : Int) ≤ 15 := by omega
          have hx := HD.out i his hi2 hlt2
          rw [← hE, ← hd] at hx
          obtain ⟨h, hh⟩ : ∃ h : Int, h = Lib.hexDigit d := ⟨_, rfl⟩
          have hbd := hexDigit_bd d hd16
          have hor := hexDigit_or d hd16
          have PL := Lib.hid (place_hex d hd16)
          rw [← hh] at hx hbd hor PL
          have hbd1 : 0 ≤ h := by omega
          have hbd2 : h ≤ 255 := by omega
          have hcv := run_convert_bytes_arg (P := Tryd.prog) (wr.alloc (.cells #[.int .u8 h] 5)) 27 5 Tryd.underlying27 Tryd.underlying5 wr.heap.size 0 1 1 [h] rfl (by intro i hi; simp at hi; subst hi; simp) 9 Tryd.underlying9
          have HB2 := Lib.hid (hB.out.alloc hB.out.size (.cells #[.int .u8 h] 5))
          have HN2 := Lib.hid hN2; have HE := Lib.hid hE
          clear hd hh hE hN2 hN hbd
          go_wp2_with (go_at_call 11; refine (PL.out _).mono ?_; rintro e w1 ⟨rfl, rfl⟩)
          go_roundw
          case rel => exact ⟨i + 1, N * 16 + d, by omega, by omega, by go_num, by go_num, Lib.hid (by rw [HN2.out, HE.out]; congr 2; omega), HB2⟩
          case measure => simp [intOf]; omega
        · have hiI : ¬ (i : Int) < 6 := by omega
          obtain rfl : i = 6 := by omega
          obtain rfl : N = n := by have := hN.out; simpa using this
          have C := Lib.hid (HCO.out wr hB.out)
          clear HD HN hN hB HCO
          go_wp2_with (go_at_call 12; refine C.out.mono ?_; rintro e w1 ⟨v, rfl, h1, h2⟩)
          go_ret2
          exact ⟨v, rfl, h1, h2⟩

set_option maxHeartbeats 3200000 in
theorem escape_uu (b : Bool) (n c : Nat) (s : ByteArray) (w : World) (hn : n ≤ 1114111) (h2 : 65536 ≤ n) (h2s : 10 ≤ s.size) (hs : s.size ≤ 140737488355328) (hc : (s[1]'(by omega)).toNat = c) (hcL : c = 85)
    (hdig : ∀ i (hi : i < s.size), 2 ≤ i → i < 10 → (((s[i]'hi).toNat : Nat) : Int) = Lib.hexDigit (n / 16 ^ (9 - i) % 16)) :
    Calls Tryd.prog 7 #[.string s, .bool b] w (EscOut (Lib.encodeRune (n : Int)) 10 w) := by
  have OTH := Lib.hid (esc_other c (by omega))
  have hc256 : c < 256 := by omega
  have q120 : ((c : Int) == 120) = false := by rw [hcL]; decide
  have q117 : ((c : Int) == 117) = false := by rw [hcL]; decide
  have q85 : ((c : Int) == 85) = true := by rw [hcL]; decide
  have h2I : (10 : Int) ≤ (s.size : Int) := by omega
  have HCO : Hid (∀ W, Below w.heap.size w W → Calls Tryd.prog 12 #[.int .i64 (n : Int), .bool false, .bool b, .int .i64 10] W (EscOut (Lib.encodeRune (n : Int)) 10 w)) := Lib.hid (fun W hb' => (coded_rune n b 10 _ hn (by omega)).mono (fun e w' h => h.from hb'))
  have hnb : n < 16 ^ 8 := by first | exact hn | omega
  have HD := Lib.hid hdig; have HN := Lib.hid hnb
  clear hcL hdig hn hnb h2
  generalize hV : (Lib.encodeRune (n : Int)) = V at *
  clear hV
  go_enter Tryd.func7, Tryd.ntmps7
  go_wp2_with fail
  go_loopw [6] (fun i wr => ∃ j m : Nat, j ≤ 10 ∧ i = .int .i64 j ∧ wr = w.drewN m) (fun i _ => 10 - (intOf i).toNat)
  case atStart => exact ⟨0, 0, Nat.zero_le _, rfl, rfl⟩
  case round =>
    obtain ⟨j, m, hj, rfl, rfl⟩ := hrel
    by_cases hlt : j < 10
    · have hj10 : j < ({ data := #[110, 114, 116, 97, 98, 102, 118, 34, 39, 92] } : ByteArray).size := hlt
      have hjI : (j : Int) < 10 := by omega
      have hne := OTH.out j hj10
      go_wp2_with fail
      go_quiet (fail)
      go_wp2_with fail
      go_roundw
      case rel => exact ⟨j + 1, _, by omega, by go_num, rfl⟩
      case measure => simp [intOf]; omega
    · have hjI : ¬ (j : Int) < 10 := by omega
      clear OTH
      go_wp2_with fail
      go_loopw [8, 9, 10] (fun v i d wr => ∃ i' N : Nat, 2 ≤ i' ∧ i' ≤ 10 ∧ i = .int .i64 i' ∧ v = .int .i64 N ∧ Hid (N = n / 16 ^ (10 - i')) ∧ Hid (Below w.heap.size w wr)) (fun _ i _ _ => 10 - (intOf i).toNat)
      case atStart => exact ⟨2, 0, Nat.le_refl _, by omega, rfl, rfl, Lib.hid (Nat.div_eq_of_lt HN.out).symm, Lib.hid (Below.dn (Below.refl _ _) _)⟩
      case round =>
        obtain ⟨i, N, hi2, hiT, rfl, rfl, hN, hB⟩ := hrel
        by_cases hlt2 : i < 10
        · have hiI : (i : Int) < 10 := by omega
          have hiI0 : (0 : Int) ≤ (i : Int) := by omega
          have his : i < s.size := by omega
          have hisI : (i : Int) < (s.size : Int) := by omega
          obtain ⟨E, hE⟩ : ∃ E, E = 9 - i := ⟨_, rfl⟩
          obtain ⟨d, hd⟩ : ∃ d, d = n / 16 ^ E % 16 := ⟨_, rfl⟩
          have hd16 : d < 16 := by omega
          have hdI : (0 : Int) ≤ (d : Int) := by omega
          have hN2 : N * 16 + d = n / 16 ^ E := by
            rw [hN.out, show 10 - i = E + 1 by omega, Nat.pow_succ, ← Nat.div_div_eq_div_mul, hd]; omega
          have hNle : N ≤ 268435455 := by
            have h0 := HN.out
            have h3 := Nat.div_le_self n (16 ^ E)
            omega
          have hNI : (N : Int) ≤ 268435455 := by omega
          have hNI0 : (0 : Int) ≤ (N : Int) := by omega
          have hdI2 : (d : Int) ≤ 15 := by omega
          have hx := HD.out i his hi2 hlt2
          rw [← hE, ← hd] at hx
          obtain ⟨h, hh⟩ : ∃ h : Int, h = Lib.hexDigit d := ⟨_, rfl⟩
          have hbd := hexDigit_bd d hd16
          have hor := hexDigit_or d hd16
          have PL := Lib.hid (place_hex d hd16)
          rw [← hh] at hx hbd hor PL
          have hbd1 : 0 ≤ h := by omega
          have hbd2 : h ≤ 255 := by omega
          have hcv := run_convert_bytes_arg (P := Tryd.prog) (wr.alloc (.cells #[.int .u8 h] 5)) 27 5 Tryd.underlying27 Tryd.underlying5 wr.heap.size 0 1 1 [h] rfl (by intro i hi; simp at hi; subst hi; simp) 9 Tryd.underlying9
          have HB2 := Lib.hid (hB.out.alloc hB.out.size (.cells #[.int .u8 h] 5))
          have HN2 := Lib.hid hN2; have HE := Lib.hid hE
          clear hd hh hE hN2 hN hbd
          go_wp2_with (go_at_call 11; refine (PL.out _).mono ?_; rintro e w1 ⟨rfl, rfl⟩)
          go_roundw
          case rel => exact ⟨i + 1, N * 16 + d, by omega, by omega, by go_num, by go_num, Lib.hid (by rw [HN2.out, HE.out]; congr 2; omega), HB2⟩
          case measure => simp [intOf]; omega
        · have hiI : ¬ (i : Int) < 10 := by omega
          obtain rfl : i = 10 := by omega
          obtain rfl : N = n := by have := hN.out; simpa using this
          have C := Lib.hid (HCO.out wr hB.out)
          clear HD HN hN hB HCO
          go_wp2_with (go_at_call 12; refine C.out.mono ?_; rintro e w1 ⟨v, rfl, h1, h2⟩)
          go_ret2
          exact ⟨v, rfl, h1, h2⟩
end Go.Proofs.YtoghnefgflkpdaaDoor
