/- nat.sub with a receiver that has no words: the difference of two numbers, the second one not the greater; natOne. -/
import Derived.Test.YtpcnmgldmnncoaaGreatDoorNatAdd
namespace Go.Proofs.YtpcnmgldmnncoaaGreatDoor
open Go.RowKit Dig
set_option linter.unusedVariables false
set_option linter.unusedSimpArgs false
set_option maxRecDepth 100000

/-- the first words of a difference -/
theorem dgs_sub_low (B N X R n m : Nat) (hm : m = X + B ^ N * R) (hn : n < B ^ N) (hX : X < B ^ N) (h : n ≤ m) : dgs B N (X + B ^ N - n) = dgs B N (m - n) := by
  have e : X + B ^ N - n + B ^ N * R = (m - n) + B ^ N * 1 := by omega
  rw [← dgs_add_mul B N (X + B ^ N - n) R, e, dgs_add_mul]
theorem sub_high (B N X R n m : Nat) (hm : m = X + B ^ N * R) (hn : n < B ^ N) (hX : X < B ^ N) (h : n ≤ m) : (m - n) / B ^ N = R - (if X < n then 1 else 0) ∧ (if X < n then 1 else 0) ≤ R := by
  by_cases hlt : X < n
  · simp only [if_pos hlt]
    have hR : 1 ≤ R := by
      rcases Nat.eq_zero_or_pos R with h0 | h0
      · subst h0; simp at hm; omega
      · exact h0
    refine ⟨?_, hR⟩
    have e : B ^ N * R = B ^ N * (R - 1) + B ^ N := by rw [← Nat.mul_succ]; congr 1; omega
    rw [show m - n = (X + B ^ N - n) + B ^ N * (R - 1) by omega, Nat.add_mul_div_left _ _ (by omega), Nat.div_eq_of_lt (by omega)]; omega
  · simp only [if_neg hlt]
    refine ⟨?_, Nat.zero_le _⟩
    rw [show m - n = (X - n) + B ^ N * R by omega, Nat.add_mul_div_left _ _ (by omega), Nat.div_eq_of_lt (by omega)]; omega

/-- make: some words more than asked for, but for one word -/
def MakePostB (n : Nat) (w : World) (e : Ending) (w' : World) : Prop :=
  ∃ c, n ≤ c ∧ c ≤ n + 4 ∧ (2 ≤ n → n < c) ∧ e = .returned (.slice (some ⟨w.heap.size, 0, none⟩) n c) ∧ w' = w.alloc (.cells (zs (.int .u64 0) c).toArray 79)
theorem make_any2 (n : Nat) (w : World) (h0 : 0 < n) (hn : n ≤ 1099511627776) : Calls Tryz.prog 54 #[.slice none 0 0, .int .i64 n] w (MakePostB n w) := by
  by_cases h1 : n = 1
  · subst h1
    refine (make_any 1 w h0 hn).mono ?_
    rintro e w' ⟨c, hc1, hc2, h1, h2⟩
    exact ⟨c, hc1, hc2, by omega, h1, h2⟩
  · have hmk := fun w => run_mk (P := Tryz.prog) 53 79 (.int .u64 0) 8 Tryz.underlying53 infoW rfl n (n + 4) (by omega) (by omega) (by omega) w
    have e4 : ((n + 4 : Nat) : Int) = (n : Int) + 4 := by omega
    rw [e4] at hmk
    clear e4
    have hne : ((n : Int) == 1) = false := by simp; omega
    go_enter Tryz.func54, Tryz.ntmps54
    go_wp2
    go_ret
    exact ⟨n + 4, by omega, by omega, by omega, rfl, rfl⟩

set_option maxHeartbeats 1600000 in
theorem natSub_ge (xs ys : List Nat) (m n : Nat) (x y : Value) (w : World) (rx : Rep 18446744073709551616 xs m) (ry : Rep 18446744073709551616 ys n) (hx : Sl w w.heap.size x (xs.map wv)) (hy : Sl w w.heap.size y (ys.map wv)) (lx : xs.length ≤ 1024) (hge : ys.length ≤ xs.length) (hmn : n ≤ m) :
    Calls Tryz.prog 52 #[.slice none 0 0, x, y] w (NtPost (m - n) w) := by
  obtain ⟨a1, c1, rfl, hc1, hr1⟩ := id hx
  obtain ⟨a2, c2, rfl, hc2, hr2⟩ := id hy
  simp only [List.length_map] at hx hy hc1 hc2 ⊢
  by_cases h0 : ys = []
  · subst h0
    have hn : n = 0 := (ry.pos_iff (by omega)).1 rfl
    subst hn
    by_cases h1 : xs = []
    · subst h1
      have hm : m = 0 := (rx.pos_iff (by omega)).1 rfl
      subst hm
      clear hx hy hr1 hr2 rx ry
      go_enter Tryz.func52, Tryz.ntmps52
      go_wp2_with fail
      go_ret
      exact ⟨_, rfl, ⟨[], rep_zero, Sl.nil _ _⟩, Below.refl _ _⟩
    · have hp : 0 < xs.length := List.length_pos_iff.2 h1
      have C := Lib.hid (set_any xs _ w hx (by omega))
      have RX := Lib.hid rx
      clear hx hy hr1 hr2 rx ry h1
      go_enter Tryz.func52, Tryz.ntmps52
      go_wp2_with fail
      refine C.out.mono ?_
      rintro e w1 ⟨v, rfl, hs, hb⟩
      have HS := Lib.hid hs
      have HB := Lib.hid hb
      clear hs hb
      go_wp2_with fail
      go_ret
      exact ⟨_, rfl, ⟨xs, RX.out, HS.out⟩, HB.out⟩
  · have h1 : xs ≠ [] := fun h => by subst h; simp at hge; exact h0 hge
    have hp : 0 < ys.length := List.length_pos_iff.2 h0
    obtain ⟨b1, o1, rfl, _, _⟩ := hr1 (by simpa using h1)
    obtain ⟨b2, o2, rfl, _, _⟩ := hr2 (by simpa using h0)
    obtain ⟨K, hK⟩ : ∃ K, K = xs.length := ⟨_, rfl⟩
    obtain ⟨N, hN⟩ : ∃ N, N = ys.length := ⟨_, rfl⟩
    rw [← hK] at hx hc1 lx hge ⊢
    rw [← hN] at hy hc2 hp hge ⊢
    have hS : m - n < 18446744073709551616 ^ K := by
      have e1 := rx.val_lt
      rw [← hK] at e1
      omega
    have hnN : n < 18446744073709551616 ^ N := by
      have e2 := ry.val_lt
      rwa [← hN] at e2
    have hms : m = nval 18446744073709551616 (xs.take N) + 18446744073709551616 ^ N * nval 18446744073709551616 (xs.drop N) := by
      have := nval_split xs N (by omega)
      rwa [rx.val] at this
    have hlow := dgs_sub_low 18446744073709551616 N _ _ n m hms hnN (take_lt rx.lt N) hmn
    obtain ⟨hhigh, hbor⟩ := sub_high 18446744073709551616 N _ _ n m hms hnN (take_lt rx.lt N) hmn
    have hb1 : (if nval 18446744073709551616 (xs.take N) < n then 1 else 0) ≤ 1 := by split <;> omega
    -- the first N words
    have Q1 : Hid (∀ (c : Nat) (w1 : World), Below w.heap.size w w1 → w.heap.size < w1.heap.size → K ≤ c → Blk w1 w.heap.size 79 (zs (.int .u64 0) c) → ∀ q, Calls Tryz.prog 67 #[.slice (some ⟨w.heap.size, 0, none⟩) N c, .slice (some ⟨b1, o1, none⟩) N c1, .slice (some ⟨b2, o2, none⟩) N c2] (w1.drewN q)
        (VecPost w.heap.size (splice (zs (.int .u64 0) c) 0 ((dgs 18446744073709551616 N (m - n)).map wv)) (if nval 18446744073709551616 (xs.take N) < n then 1 else 0) w1)) := Lib.hid (by
      intro c w1 hb hlt hc hk q
      have h := subVV_any (xs.take N) ys (zs (.int .u64 0) c) w.heap.size 0 N c w.heap.size _ _ (w1.drewN q) (((hx.part N (by omega)).below hb).drewN q) ((hy.below hb).drewN q) (by simp; omega) hN.symm (fun u hu => rx.lt u (List.mem_of_mem_take hu)) ry.lt (Nat.le_refl _) (Nat.le_of_lt hlt) (hk.drewN q) (by rw [zs_length]; omega) (by omega)
      rw [ry.val, hlow] at h
      refine h.mono ?_
      rintro e w' ⟨rfl, h1, h2⟩
      exact ⟨rfl, h1, ((Up.refl _ _).drewN q).trans h2⟩)
    -- the words behind
    have Q2 : Hid (∀ (c : Nat) (w1 w2 : World), Below w.heap.size w w1 → w.heap.size < w1.heap.size → Up (some w.heap.size) w1 w2 → K < c → N < K → Blk w2 w.heap.size 79 (splice (zs (.int .u64 0) c) 0 ((dgs 18446744073709551616 N (m - n)).map wv)) → ∀ q, Calls Tryz.prog 68 #[.slice (some ⟨w.heap.size, N, none⟩) (K - N) (c - N), .slice (some ⟨b1, o1 + N, none⟩) (K - N) (c1 - N), .int .u64 ((if nval 18446744073709551616 (xs.take N) < n then 1 else 0 : Nat) : Int)] (w2.drewN q)
        (VecPost w.heap.size (splice (zs (.int .u64 0) c) 0 ((dgs 18446744073709551616 K (m - n)).map wv)) 0 w1)) := Lib.hid (by
      intro c w1 w2 hb hlt hu hc hKN hk q
      have hl1 : (splice (zs (.int .u64 0) c) 0 ((dgs 18446744073709551616 N (m - n)).map wv)).length = c := by rw [length_splice _ _ _ (by simp [dgs_length, zs_length]; omega), zs_length]
      have h := subVW_any (xs.drop N) (if nval 18446744073709551616 (xs.take N) < n then 1 else 0) _ w.heap.size N (K - N) (c - N) w.heap.size _ (w2.drewN q) ((((hx.rest N (by omega) (by omega)).below hb).up hu (Nat.le_of_lt hlt) (Nat.le_refl _)).drewN q) (by simp; omega) (fun u hu => rx.lt u (List.mem_of_mem_drop hu)) (by omega) (by omega) (Nat.le_refl _) (Nat.le_trans (Nat.le_of_lt hlt) hu.size) (hk.drewN q) (by rw [hl1]; omega) (by omega) hb1
      refine h.mono ?_
      rintro e w' ⟨rfl, h1, h2⟩
      have e3 := splice_splice (zs (.int .u64 0) c) 0 ((dgs 18446744073709551616 N (m - n)).map wv) ((dgs 18446744073709551616 (K - N) ((m - n) / 18446744073709551616 ^ N)).map wv) (by simp [dgs_length, zs_length]; omega)
      rw [Nat.zero_add, List.length_map, dgs_length, ← List.map_append, ← dgs_append, show N + (K - N) = K by omega] at e3
      have e4 : nval 18446744073709551616 (xs.drop N) + 18446744073709551616 ^ (K - N) - (if nval 18446744073709551616 (xs.take N) < n then 1 else 0) = (m - n) / 18446744073709551616 ^ N + 18446744073709551616 ^ (K - N) * 1 := by rw [hhigh]; omega
      rw [e4, dgs_add_mul, e3] at h1
      exact ⟨by rw [if_neg (by omega)], h1, hu.trans (((Up.refl _ _).drewN q).trans h2)⟩)
    -- the end
    have Q3 : Hid (∀ (c : Nat) (w1 w2 : World), Below w.heap.size w w1 → w.heap.size < w1.heap.size → Up (some w.heap.size) w1 w2 → K ≤ c → Blk w2 w.heap.size 79 (splice (zs (.int .u64 0) c) 0 ((dgs 18446744073709551616 K (m - n)).map wv)) →
        Calls Tryz.prog 56 #[.slice (some ⟨w.heap.size, 0, none⟩) K c] w2 (NtPost (m - n) w)) := Lib.hid (by
      intro c w1 w2 hb hlt hu hc hk
      refine (row_done w.heap.size c K (m - n) _ hk hc (by omega) hS).mono ?_
      rintro e w' ⟨j, rfl, hnt, rfl⟩
      exact ⟨_, rfl, hnt, hb.trans (hu.below hb.size (fun k hk => by injection hk with hk; omega))⟩)
    have HE : Hid (N = K → (if nval 18446744073709551616 (xs.take N) < n then 1 else 0) = 0) := Lib.hid (by
      intro h
      rw [List.take_of_length_le (by omega), rx.val, if_neg (by omega)])
    generalize (if nval 18446744073709551616 (xs.take N) < n then 1 else 0) = c0 at *
    have C1 := Lib.hid (make_any2 K w (by omega) (by omega))
    have START : Hid (∀ c w1, w1 = w.alloc (.cells (zs (.int .u64 0) c).toArray 79) → Below w.heap.size w w1 ∧ w.heap.size < w1.heap.size ∧ Blk w1 w.heap.size 79 (zs (.int .u64 0) c)) := Lib.hid (by
      rintro c w1 rfl
      exact ⟨(Below.refl _ _).alloc (Nat.le_refl _) _, by simp, Blk.new _ _ _⟩)
    have hz1 : ¬ K < N := by omega
    have hz2 : ((K : Int) == 0) = false := by simp; omega
    have hz3 : ((N : Int) == 0) = false := by simp; omega
    have hg1 : (N : Int) ≤ (K : Int) := by omega
    have hg2 : (N : Int) ≤ (c1 : Int) := by omega
    have hg3 : (N : Int) ≤ (c2 : Int) := by omega
    have hg4 : (0 : Int) ≤ (N : Int) := by omega
    clear hr1 hr2 hx hy rx ry h0 h1 hS hK hN hnN hms hlow hhigh hbor hb1
    by_cases hNK : N < K
    · have hck : ¬ c1 = N := by omega
      go_enter Tryz.func52, Tryz.ntmps52
      go_wp2_with fail
      refine C1.out.mono ?_
      rintro e w1 ⟨c, hc3, hc4, hc5, rfl, hw1⟩
      obtain ⟨hb1, hl1, hk1⟩ := START.out c w1 hw1
      have P1 := Lib.hid (Q1.out c w1 hb1 hl1 hc3 hk1)
      have HB1 := Lib.hid hb1
      clear hw1 hk1 hb1
      have hg5 : (N : Int) ≤ (c : Int) := by omega
      have hg6 : (K : Int) ≤ (c : Int) := by omega
      have hck2 : ¬ c = N := by omega
      go_wp2_with fail
      go_region_held3 (fun _ => True) (trivial) ((go_at_call 67; refine (P1.out _).mono ?_; rintro e w2 ⟨rfl, hk2, hu2⟩; have HK2 := Lib.hid hk2; have HU2 := Lib.hid hu2; clear hk2 hu2))
      have P2 := Lib.hid (Q2.out c w1 w2 HB1.out hl1 HU2.out (by omega) hNK HK2.out)
      go_wp2_with fail
      go_region_held3 (fun _ => True) (trivial) ((go_at_call 68; refine (P2.out _).mono ?_; rintro e w3 ⟨rfl, hk3, hu3⟩; have HK3 := Lib.hid hk3; have HU3 := Lib.hid hu3; clear hk3 hu3))
      have P3 := Lib.hid (Q3.out c w1 w3 HB1.out hl1 HU3.out hc3 HK3.out)
      go_wp2_with fail
      refine P3.out.mono ?_
      rintro e w4 ⟨v, rfl, h1, h2⟩
      have H1 := Lib.hid h1
      have H2 := Lib.hid h2
      clear h1 h2
      go_wp2_with fail
      go_ret
      exact ⟨_, rfl, H1.out, H2.out⟩
    · obtain rfl : N = K := by omega
      obtain rfl := HE.out rfl
      go_enter Tryz.func52, Tryz.ntmps52
      go_wp2_with fail
      refine C1.out.mono ?_
      rintro e w1 ⟨c, hc3, hc4, hc5, rfl, hw1⟩
      obtain ⟨hb1, hl1, hk1⟩ := START.out c w1 hw1
      have P1 := Lib.hid (Q1.out c w1 hb1 hl1 hc3 hk1)
      have HB1 := Lib.hid hb1
      clear hw1 hk1 hb1
      have hg5 : (N : Int) ≤ (c : Int) := by omega
      go_wp2_with fail
      go_region_held3 (fun _ => True) (trivial) ((go_at_call 67; refine (P1.out _).mono ?_; rintro e w2 ⟨rfl, hk2, hu2⟩; have HK2 := Lib.hid hk2; have HU2 := Lib.hid hu2; clear hk2 hu2))
      have P3 := Lib.hid (Q3.out c w1 w2 HB1.out hl1 HU2.out hc3 HK2.out)
      go_wp2_with fail
      refine P3.out.mono ?_
      rintro e w4 ⟨v, rfl, h1, h2⟩
      have H1 := Lib.hid h1
      have H2 := Lib.hid h2
      clear h1 h2
      go_wp2_with fail
      go_ret
      exact ⟨_, rfl, H1.out, H2.out⟩
theorem natSub_any (m n : Nat) (x y : Value) (w : World) (hx : Nt w w.heap.size x m) (hy : Nt w w.heap.size y n) (hm : m < lim) (hn : n ≤ m) :
    Calls Tryz.prog 52 #[.slice none 0 0, x, y] w (NtPost (m - n) w) := by
  obtain ⟨xs, rx, hx⟩ := hx
  obtain ⟨ys, ry, hy⟩ := hy
  have lx := rx.words_le hm
  rcases Nat.lt_or_ge xs.length ys.length with hlt | hge
  · have := Rep.len_lt (by omega) rx ry hlt
    omega
  · exact natSub_ge xs ys m n x y w rx ry hx hy (by omega) hge hn
end Go.Proofs.YtpcnmgldmnncoaaGreatDoor
