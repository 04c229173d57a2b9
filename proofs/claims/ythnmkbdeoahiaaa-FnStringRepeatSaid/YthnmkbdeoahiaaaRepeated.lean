/- spec.Repeated: a text so many times. -/
import Derived.Test.YthnmkbdeoahiaaaNum
import Derived.Test.YthnmkbdeoahiaaaI64
import Derived.Lib.Repeat
namespace Go.Proofs.Ythnmkbdeoahiaaa
open Go.RowKit Dig
set_option linter.unusedVariables false
set_option linter.unusedSimpArgs false
set_option maxRecDepth 100000

/-- a text so many times -/
def repB (s : ByteArray) : Nat → ByteArray
  | 0 => ByteArray.empty
  | k + 1 => repB s k ++ s
theorem repeatL_snoc (l : List UInt8) (k : Nat) : Lib.repeatL l (k + 1) = Lib.repeatL l k ++ l := by
  induction k with
  | zero => simp [Lib.repeatL]
  | succ k ih =>
    have e : Lib.repeatL l (k + 1 + 1) = l ++ Lib.repeatL l (k + 1) := rfl
    have e2 : Lib.repeatL l (k + 1) = l ++ Lib.repeatL l k := rfl
    rw [e, ih, ← List.append_assoc, ← e2, ih]
theorem repB_list (s : ByteArray) (k : Nat) : (repB s k).data.toList = Lib.repeatL s.data.toList k := by
  induction k with
  | zero => rfl
  | succ k ih => rw [repeatL_snoc, ← ih, repB]; simp
theorem repB_eq (s : ByteArray) (k : Nat) : (⟨(Lib.repeatL s.data.toList k).toArray⟩ : ByteArray) = repB s k := by
  rw [← repB_list]
theorem repB_size (s : ByteArray) (k : Nat) : (repB s k).size = k * s.size := by
  induction k with
  | zero => simp [repB]
  | succ k ih => simp [repB, ih, Nat.succ_mul]
theorem repB_empty (s : ByteArray) (h : s.size = 0) (k : Nat) : repB s k = ByteArray.empty := by
  have := repB_size s k
  rw [h, Nat.mul_zero] at this
  apply ByteArray.ext
  apply Array.eq_empty_of_size_eq_zero
  simpa using this
/-- what is asked for, and how it reads -/
def RepPost (s : ByteArray) (i : Int) (w : World) (e : Ending) (w' : World) : Prop :=
  ∃ out ok, e = .returned (.tuple #[.string out, .bool ok]) ∧ Below w.heap.size w w' ∧ (ok = true → out = repB s i.toNat ∧ (s.size = 0 ∨ i < 1 ∨ (i ≤ 1048576 ∧ i.toNat * s.size ≤ 65536)))

def RepRel (s : ByteArray) (K : Nat) (u i : Value) : Prop := ∃ j : Nat, j ≤ K ∧ i = .int .i64 (j : Int) ∧ u = .string (repB s j)
set_option maxHeartbeats 1600000 in
theorem repeated_any (s : ByteArray) (i : Int) (v : Value) (w : World) (hv : Va w w.heap.size v i) (hi : i.natAbs < 16777216) (hs : s.size ≤ 300) :
    Calls Try.prog 11 #[.string s, v] w (RepPost s i w) := by
  have hl : i.natAbs < lim := lt_lim (j := 3) (by
    have e : (256 : Nat) ^ 3 = 16777216 := by decide
    omega) (by omega)
  have EF : fits64 i = true := by unfold fits64; simp; omega
  obtain ⟨vn, va, vk, vc, rfl⟩ := hv.parts
  obtain ⟨W0, hW0⟩ : ∃ W0, W0 = w.alloc (.cells #[.int .i64 2, .bool vn, .slice va vk vc, .int .u64 0, .string ByteArray.empty, .slice none 0 0] 28) := ⟨_, rfl⟩
  have hb0 : Below w.heap.size w W0 := by rw [hW0]; exact (Below.refl _ _).alloc (Nat.le_refl _) _
  have C1 : Hid (Calls Try.prog 29 #[.agg #[.int .i64 2, .bool vn, .slice va vk vc, .int .u64 0, .string ByteArray.empty, .slice none 0 0]] W0 fun e w' => ∃ p k c, e = .returned (.agg #[.bool (decide (i < 0)), .slice p k c]) ∧ Sp w' w'.heap.size (.agg #[.bool (decide (i < 0)), .slice p k c]) i ∧ Below W0.heap.size W0 w') := Lib.hid (by
    refine (num_any i _ W0 ((hv.below hb0).more hb0.size) hl).mono ?_
    rintro e w' ⟨v, rfl, hs, hb⟩
    obtain ⟨mag, rfl, hm⟩ := id hs
    obtain ⟨q, p, k, c, hq⟩ := hs.form
    simp only [Value.agg.injEq, Array.mk.injEq, List.cons.injEq, Value.bool.injEq, and_true] at hq
    obtain ⟨rfl, rfl⟩ := hq
    exact ⟨p, k, c, rfl, hs, hb⟩)
  have STEP : Hid (∀ n p k c w', n = decide (i < 0) → Sp w' w'.heap.size (.agg #[.bool n, .slice p k c]) i → Below W0.heap.size W0 w' →
      Calls Try.prog 7 #[.agg #[.bool n, .slice p k c]] (w'.alloc (.cells #[.bool n, .slice p k c] 24)) fun e w2 => e = .returned (.tuple #[.int .i64 i, .bool true]) ∧ Below w.heap.size w w2 ∧ w2.cell? ⟨w'.heap.size, 0, none⟩ = some (.bool n)) := Lib.hid (by
    intro n p k c w' hn hs hb
    subst hn
    have b1 : Below w'.heap.size w' (w'.alloc (.cells #[.bool (decide (i < 0)), .slice p k c] 24)) := (Below.refl _ _).alloc (Nat.le_refl _) _
    have hk := Blk.new w' 24 [.bool (decide (i < 0)), .slice p k c]
    refine (specInt64_any i _ _ ((hs.below b1).more b1.size) hl).mono ?_
    rintro e w2 ⟨rfl, hb2⟩
    rw [EF]
    refine ⟨rfl, ?_, ?_⟩
    · exact (hb0.trans (hb.mono hb0.size)).trans ((b1.trans (hb2.mono b1.size)).mono (Nat.le_trans hb0.size hb.size))
    · exact (hk.below hb2 (by simp)).cell 0 (by simp))
  obtain ⟨n, hn⟩ : ∃ n, n = decide (i < 0) := ⟨_, rfl⟩
  rw [← hn] at C1
  have STEP := Lib.hid (fun p k c w' => STEP.out n p k c w' hn)
  have HV : True := trivial
  clear hv hb0 hl EF
  subst hW0
  have hs1 : s.size ≤ 9223372036854775807 := by omega
  rcases Int.lt_or_le i 0 with h0 | h0
  · obtain rfl : n = true := by rw [hn]; simp [h0]
    have FIN : Hid (∀ W, Below w.heap.size w W → RepPost s i w (.returned (.tuple #[.string ByteArray.empty, .bool true])) W) := Lib.hid (fun W h => ⟨_, _, rfl, h, fun _ => ⟨by rw [show i.toNat = 0 by omega]; rfl, .inr (.inl (by omega))⟩⟩)
    clear hn h0 hi hs
    go_enter Try.func11, Try.ntmps11
    go_wp2_with fail
    refine C1.out.mono ?_
    rintro e w1 ⟨p, k, c, rfl, hsp, hb1⟩
    have HS := Lib.hid hsp; have HB := Lib.hid hb1; clear hsp hb1
    go_wp2_with fail
    refine (STEP.out _ _ _ _ HS.out HB.out).mono ?_
    rintro e w2 ⟨rfl, hb2, c0⟩
    have HB2 := Lib.hid hb2; clear hb2
    go_wp2_with fail
    go_ret2
    exact FIN.out _ HB2.out
  · obtain rfl : n = false := by rw [hn]; simp; omega
    obtain ⟨K, rfl⟩ := Int.eq_ofNat_of_zero_le h0
    clear hn h0
    by_cases hz : s.size = 0
    · obtain rfl : s = ByteArray.empty := by
        apply ByteArray.ext
        apply Array.eq_empty_of_size_eq_zero
        simpa using hz
      have FIN : Hid (∀ W, Below w.heap.size w W → RepPost ByteArray.empty (K : Int) w (.returned (.tuple #[.string ByteArray.empty, .bool true])) W) := Lib.hid (fun W h => ⟨_, _, rfl, h, fun _ => ⟨(repB_empty _ rfl _).symm, .inl rfl⟩⟩)
      clear hz
      go_enter Try.func11, Try.ntmps11
      go_wp2_with fail
      refine C1.out.mono ?_
      rintro e w1 ⟨p, k, c, rfl, hsp, hb1⟩
      have HS := Lib.hid hsp; have HB := Lib.hid hb1; clear hsp hb1
      go_wp2_with fail
      refine (STEP.out _ _ _ _ HS.out HB.out).mono ?_
      rintro e w2 ⟨rfl, hb2, c0⟩
      have HB2 := Lib.hid hb2; clear hb2
      go_wp2_with fail
      go_ret2
      exact FIN.out _ HB2.out
    · have hne : ¬ s.toList = [] := by
        intro h
        rw [ByteArray.toList_eq] at h
        have := congrArg List.length h
        simp at this
        exact hz (by simpa using this)
      have hp0 : (0 : Int) ≤ (K : Int) * (s.size : Int) := Int.mul_nonneg (by omega) (by omega)
      have hp1 : (K : Int) * (s.size : Int) ≤ 5033164800 := by
        have h1 : K * s.size ≤ 16777216 * 300 := Nat.mul_le_mul (by omega) hs
        have h2 : ((K * s.size : Nat) : Int) ≤ ((16777216 * 300 : Nat) : Int) := Int.ofNat_le.2 h1
        simpa using h2
      have NO : Hid (∀ W, Below w.heap.size w W → RepPost s (K : Int) w (.returned (.tuple #[.string ByteArray.empty, .bool false])) W) := Lib.hid (fun W h => ⟨_, _, rfl, h, fun h => by cases h⟩)
      have YES : Hid (K ≤ 1048576 → K * s.size ≤ 65536 → ∀ W, Below w.heap.size w W → RepPost s (K : Int) w (.returned (.tuple #[.string (repB s K), .bool true])) W) := Lib.hid (fun h1 h2 W h => ⟨_, _, rfl, h, fun _ => ⟨rfl, .inr (.inr ⟨by omega, h2⟩)⟩⟩)
      go_enter Try.func11, Try.ntmps11
      go_wp2_with fail
      refine C1.out.mono ?_
      rintro e w1 ⟨p, k, c, rfl, hsp, hb1⟩
      have HS := Lib.hid hsp; have HB := Lib.hid hb1; clear hsp hb1
      go_wp2_with fail
      refine (STEP.out _ _ _ _ HS.out HB.out).mono ?_
      rintro e w2 ⟨rfl, hb2, c0⟩
      have HB2 := Lib.hid hb2; clear hb2
      have P0 := Lib.hid hp0; have P1 := Lib.hid hp1
      clear STEP C1
      go_wp2_with fail
      · go_ret2
        exact NO.out _ HB2.out
      · have h1 : K ≤ 1048576 := by have : (K : Int) ≤ 1048576 := by assumption
                                    omega
        have h2 : K * s.size ≤ 65536 := by
          have h3 : (K : Int) ≤ 1048576 ∧ (K : Int) * (s.size : Int) ≤ 65536 := by assumption
          have h4 : ((K * s.size : Nat) : Int) ≤ 65536 := by simpa using h3.2
          omega
        have YES1 := Lib.hid (YES.out h1 h2)
        have SZ : Hid (∀ j, j ≤ K → (repB s j).size ≤ 65536) := Lib.hid (fun j hj => by rw [repB_size]; exact Nat.le_trans (Nat.mul_le_mul_right _ hj) h2)
        clear YES NO h2 hp0 hp1
        go_loop [9, 40] (RepRel s K) (fun _ i => K - (intOf i).toNat)
        case atStart => exact ⟨0, Nat.zero_le _, rfl, rfl⟩
        case round =>
          obtain ⟨j, hj, rfl, rfl⟩ := hrel
          have hsz := SZ.out j hj
          have hsz2 : (repB s j).size + s.size ≤ maxLen := by unfold maxLen; omega
          by_cases hlt : j < K
          · go_wp2_with fail
            go_round
            case rel => exact ⟨j + 1, by omega, by go_num, rfl⟩
            case measure => simp [intOf]; omega
          · obtain rfl : K = j := by omega
            go_wp2_with fail
            go_ret2
            exact YES1.out _ HB2.out
      · go_ret2
        exact NO.out _ HB2.out
end Go.Proofs.Ythnmkbdeoahiaaa
