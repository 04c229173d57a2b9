/- nat.add, nat.sub with a receiver that has no words: the sum and the difference of two numbers. -/
import Derived.Test.YtpcnmgldmnncoaaGreatDoorMVec2
import Derived.Test.YtpcnmgldmnncoaaGreatDoorCmp
import Derived.Test.YtpcnmgldmnncoaaGreatDoorMTold
import Derived.Deep.RegionHeld3
namespace Go.Proofs.YtpcnmgldmnncoaaGreatDoor
open Go.RowKit Dig
set_option linter.unusedVariables false
set_option linter.unusedSimpArgs false
set_option maxRecDepth 100000

theorem dgs_append (B n k S : Nat) : dgs B (n + k) S = dgs B n S ++ dgs B k (S / B ^ n) := by
  induction n generalizing S with
  | zero => simp [dgs]
  | succ n ih =>
    rw [show n + 1 + k = (n + k) + 1 by omega, dgs, dgs, ih (S / B), List.cons_append, Nat.div_div_eq_div_mul, Nat.pow_succ, Nat.mul_comm B]
/-- the words laid from place 0 on are those of S; norm strikes the zeros -/
def RowPost (b c S : Nat) (w : World) (e : Ending) (w' : World) : Prop :=
  ∃ j : Nat, e = .returned (.slice (some ⟨b, 0, none⟩) j c) ∧ Nt w w.heap.size (.slice (some ⟨b, 0, none⟩) j c) S ∧ w = w'
theorem row_done (b c k S : Nat) (w : World) (hk : Blk w b 79 (splice (zs (.int .u64 0) c) 0 ((dgs 18446744073709551616 k S).map wv))) (hkc : k ≤ c) (hl : k ≤ 1048576) (hS : S < 18446744073709551616 ^ k) :
    Calls Tryz.prog 56 #[.slice (some ⟨b, 0, none⟩) k c] w (RowPost b c S w) := by
  have hdl := dgs_length 18446744073709551616 k S
  have hsl : Sl w w.heap.size (.slice (some ⟨b, 0, none⟩) k c) ((dgs 18446744073709551616 k S).map wv) := by
    refine hk.sl 0 _ k c w.heap.size (by simpa using hdl) ?_ ?_ hkc hk.lt
    · rw [length_splice _ _ _ (by simp [hdl, zs_length]; omega), zs_length]; omega
    · intro i hi
      exact splice_getD _ 0 _ (by simp [hdl, zs_length]; omega) i (by simpa [hdl] using hi)
  have h := norm_any (dgs 18446744073709551616 k S) (some ⟨b, 0, none⟩) c w.heap.size w (by rw [hdl]; exact hsl) (dgs_lt _ (by omega) _ _) (by omega)
  rw [hdl] at h
  refine h.mono ?_
  rintro e w' ⟨rfl, rfl⟩
  have hrep := strip_rep 18446744073709551616 (dgs 18446744073709551616 k S) (dgs_lt _ (by omega) _ _)
  rw [dgs_val_of _ _ _ hS] at hrep
  exact ⟨_, rfl, ⟨_, hrep, norm_sl (by rw [hdl]; exact hsl)⟩, rfl⟩
theorem nval_split (xs : List Nat) (n : Nat) (hn : n ≤ xs.length) : nval 18446744073709551616 xs = nval 18446744073709551616 (xs.take n) + 18446744073709551616 ^ n * nval 18446744073709551616 (xs.drop n) := by
  conv => lhs; rw [← List.take_append_drop n xs]
  rw [nval_append, List.length_take, Nat.min_eq_left hn]
/-- a part of a slice of words -/
theorem Sl.part {w : World} {B : Nat} {a : Option Addr} {n c : Nat} {xs : List Nat} (h : Sl w B (.slice a n c) (xs.map wv)) (k : Nat) (hk : k ≤ xs.length) : Sl w B (.slice a k c) ((xs.take k).map wv) := by
  have := h.head k (by simpa using hk)
  rwa [← List.map_take] at this
theorem Sl.rest {w : World} {B : Nat} {b o n c : Nat} {xs : List Nat} (h : Sl w B (.slice (some ⟨b, o, none⟩) n c) (xs.map wv)) (k : Nat) (hk : k ≤ xs.length) (hc : ¬ c = k) : Sl w B (.slice (some ⟨b, o + k, none⟩) (n - k) (c - k)) ((xs.drop k).map wv) := by
  have := h.cut k (by simpa using hk)
  rw [if_neg hc, ← List.map_drop] at this
  simpa [add_zero_off] using this

set_option maxHeartbeats 1600000 in
theorem natAdd_ge (xs ys : List Nat) (m n : Nat) (x y : Value) (w : World) (rx : Rep 18446744073709551616 xs m) (ry : Rep 18446744073709551616 ys n) (hx : Sl w w.heap.size x (xs.map wv)) (hy : Sl w w.heap.size y (ys.map wv)) (lx : xs.length ≤ 1024) (hge : ys.length ≤ xs.length) :
    Calls Tryz.prog 50 #[.slice none 0 0, x, y] w (NtPost (m + n) w) := by
  obtain ⟨a1, c1, rfl, hc1, hr1⟩ := id hx
  obtain ⟨a2, c2, rfl, hc2, hr2⟩ := id hy
  simp only [List.length_map] at hx hy hc1 hc2 ⊢
  by_cases h0 : ys = []
  · subst h0
    have hn : n = 0 := (ry.pos_iff (by omega)).1 rfl
    subst hn
    by_cases h1 : xs = []
    · subst h1
      have hm : m = 0 := (rx.pos_iff (by omega)).1 rfl
      subst hm
      clear hx hy hr1 hr2 rx ry
      go_enter Tryz.func50, Tryz.ntmps50
      go_wp2_with fail
      go_ret
      exact ⟨_, rfl, ⟨[], rep_zero, Sl.nil _ _⟩, Below.refl _ _⟩
    · have hp : 0 < xs.length := List.length_pos_iff.2 h1
      have C := Lib.hid (set_any xs _ w hx (by omega))
      have RX := Lib.hid rx
      clear hx hy hr1 hr2 rx ry h1
      go_enter Tryz.func50, Tryz.ntmps50
      go_wp2_with fail
      refine C.out.mono ?_
      rintro e w1 ⟨v, rfl, hs, hb⟩
      have HS := Lib.hid hs
      have HB := Lib.hid hb
      clear hs hb
      go_wp2_with fail
      go_ret
      exact ⟨_, rfl, ⟨xs, RX.out, HS.out⟩, HB.out⟩
  · have h1 : xs ≠ [] := fun h => by subst h; simp at hge; exact h0 hge
    have hp : 0 < ys.length := List.length_pos_iff.2 h0
    obtain ⟨b1, o1, rfl, _, _⟩ := hr1 (by simpa using h1)
    obtain ⟨b2, o2, rfl, _, _⟩ := hr2 (by simpa using h0)
    obtain ⟨K, hK⟩ : ∃ K, K = xs.length := ⟨_, rfl⟩
    obtain ⟨N, hN⟩ : ∃ N, N = ys.length := ⟨_, rfl⟩
    rw [← hK] at hx hc1 lx hge ⊢
    rw [← hN] at hy hc2 hp hge ⊢
    have hS : m + n < 18446744073709551616 ^ (K + 1) := by
      have e1 := rx.val_lt
      have e2 := ry.val_lt
      rw [← hK] at e1
      rw [← hN] at e2
      have e3 : (18446744073709551616 : Nat) ^ N ≤ 18446744073709551616 ^ K := Nat.pow_le_pow_right (by omega) hge
      rw [Nat.pow_succ]; omega
    -- the first N words
    have Q1 : Hid (∀ (c : Nat) (w1 : World), Below w.heap.size w w1 → w.heap.size < w1.heap.size → K + 1 ≤ c → Blk w1 w.heap.size 79 (zs (.int .u64 0) c) → ∀ q, Calls Tryz.prog 65 #[.slice (some ⟨w.heap.size, 0, none⟩) N c, .slice (some ⟨b1, o1, none⟩) N c1, .slice (some ⟨b2, o2, none⟩) N c2] (w1.drewN q)
        (VecPost w.heap.size (splice (zs (.int .u64 0) c) 0 ((dgs 18446744073709551616 N (m + n)).map wv)) ((nval 18446744073709551616 (xs.take N) + n) / 18446744073709551616 ^ N) w1)) := Lib.hid (by
      intro c w1 hb hlt hc hk q
      have h := addVV_any (xs.take N) ys (zs (.int .u64 0) c) w.heap.size 0 N c w.heap.size _ _ (w1.drewN q) (((hx.part N (by omega)).below hb).drewN q) ((hy.below hb).drewN q) (by simp; omega) hN.symm (fun u hu => rx.lt u (List.mem_of_mem_take hu)) ry.lt (Nat.le_refl _) (Nat.le_of_lt hlt) (hk.drewN q) (by rw [zs_length]; omega) (by omega)
      rw [ry.val] at h
      refine h.mono ?_
      rintro e w' ⟨rfl, h1, h2⟩
      refine ⟨rfl, ?_, ((Up.refl _ _).drewN q).trans h2⟩
      have e1 : m + n = (nval 18446744073709551616 (xs.take N) + n) + 18446744073709551616 ^ N * nval 18446744073709551616 (xs.drop N) := by
        have := nval_split xs N (by omega)
        rw [rx.val] at this; omega
      rw [e1, dgs_add_mul]
      exact h1)
    -- the words behind
    have Q2 : Hid (∀ (c : Nat) (w1 w2 : World), Below w.heap.size w w1 → w.heap.size < w1.heap.size → Up (some w.heap.size) w1 w2 → K + 1 ≤ c → N < K → Blk w2 w.heap.size 79 (splice (zs (.int .u64 0) c) 0 ((dgs 18446744073709551616 N (m + n)).map wv)) → ∀ q, Calls Tryz.prog 66 #[.slice (some ⟨w.heap.size, N, none⟩) (K - N) (c - N), .slice (some ⟨b1, o1 + N, none⟩) (K - N) (c1 - N), .int .u64 ((nval 18446744073709551616 (xs.take N) + n) / 18446744073709551616 ^ N : Nat)] (w2.drewN q)
        (VecPost w.heap.size (splice (zs (.int .u64 0) c) 0 ((dgs 18446744073709551616 K (m + n)).map wv)) ((m + n) / 18446744073709551616 ^ K) w1)) := Lib.hid (by
      intro c w1 w2 hb hlt hu hc hKN hk q
      have hcar : (nval 18446744073709551616 (xs.take N) + n) / 18446744073709551616 ^ N < 18446744073709551616 := by
        have e1 := take_lt rx.lt N
        have e2 := ry.val_lt
        rw [← hN] at e2
        rw [Nat.div_lt_iff_lt_mul (Nat.pow_pos (by omega))]
        have : 2 * 18446744073709551616 ^ N ≤ 18446744073709551616 * 18446744073709551616 ^ N := Nat.mul_le_mul_right _ (by omega)
        omega
      have hl1 : (splice (zs (.int .u64 0) c) 0 ((dgs 18446744073709551616 N (m + n)).map wv)).length = c := by rw [length_splice _ _ _ (by simp [dgs_length, zs_length]; omega), zs_length]
      have h := addVW_any (xs.drop N) ((nval 18446744073709551616 (xs.take N) + n) / 18446744073709551616 ^ N) _ w.heap.size N (K - N) (c - N) w.heap.size _ (w2.drewN q) ((((hx.rest N (by omega) (by omega)).below hb).up hu (Nat.le_of_lt hlt) (Nat.le_refl _)).drewN q) (by simp; omega) (fun u hu => rx.lt u (List.mem_of_mem_drop hu)) (by omega) (by omega) (Nat.le_refl _) (Nat.le_trans (Nat.le_of_lt hlt) hu.size) (hk.drewN q) (by rw [hl1]; omega) (by omega) hcar
      refine h.mono ?_
      rintro e w' ⟨rfl, h1, h2⟩
      have e1 : (m + n) / 18446744073709551616 ^ N = nval 18446744073709551616 (xs.drop N) + (nval 18446744073709551616 (xs.take N) + n) / 18446744073709551616 ^ N := by
        have := nval_split xs N (by omega)
        rw [rx.val] at this
        rw [show m + n = (nval 18446744073709551616 (xs.take N) + n) + 18446744073709551616 ^ N * nval 18446744073709551616 (xs.drop N) by omega, Nat.add_mul_div_left _ _ (Nat.pow_pos (by omega))]; omega
      have e2 : (m + n) / 18446744073709551616 ^ K = (nval 18446744073709551616 (xs.drop N) + (nval 18446744073709551616 (xs.take N) + n) / 18446744073709551616 ^ N) / 18446744073709551616 ^ (K - N) := by
        rw [← e1, Nat.div_div_eq_div_mul, ← Nat.pow_add]; congr 2; omega
      have e3 := splice_splice (zs (.int .u64 0) c) 0 ((dgs 18446744073709551616 N (m + n)).map wv) ((dgs 18446744073709551616 (K - N) ((m + n) / 18446744073709551616 ^ N)).map wv) (by simp [dgs_length, zs_length]; omega)
      rw [Nat.zero_add, List.length_map, dgs_length, ← List.map_append, ← dgs_append, show N + (K - N) = K by omega] at e3
      rw [← e1, e3] at h1
      exact ⟨by rw [e2], h1, hu.trans (((Up.refl _ _).drewN q).trans h2)⟩)
    -- the end
    have Q3 : Hid (∀ (c : Nat) (w1 w2 : World), Below w.heap.size w w1 → w.heap.size < w1.heap.size → Up (some w.heap.size) w1 w2 → K + 1 ≤ c → Blk w2 w.heap.size 79 (splice (zs (.int .u64 0) c) 0 ((dgs 18446744073709551616 K (m + n)).map wv)) →
        (∃ v, w2.cell? ⟨w.heap.size, K, none⟩ = some v) ∧ w2.frozen? ⟨w.heap.size, K, none⟩ = false ∧ Calls Tryz.prog 56 #[.slice (some ⟨w.heap.size, 0, none⟩) (K + 1) c] (w2.setCell ⟨w.heap.size, K, none⟩ (.int .u64 ((m + n) / 18446744073709551616 ^ K : Nat))) (NtPost (m + n) w)) := Lib.hid (by
      intro c w1 w2 hb hlt hu hc hk
      have hl1 : (splice (zs (.int .u64 0) c) 0 ((dgs 18446744073709551616 K (m + n)).map wv)).length = c := by rw [length_splice _ _ _ (by simp [dgs_length, zs_length]; omega), zs_length]
      refine ⟨⟨_, hk.cell K (by rw [hl1]; omega)⟩, hk.free K, ?_⟩
      have h2 := hk.set K (wv ((m + n) / 18446744073709551616 ^ K))
      have e1 := splice_set (zs (.int .u64 0) c) 0 K ((dgs 18446744073709551616 K (m + n)).map wv) (wv ((m + n) / 18446744073709551616 ^ K)) (by simp [dgs_length]) (by rw [zs_length]; omega)
      rw [Nat.zero_add] at e1
      have hd : (m + n) / 18446744073709551616 ^ K < 18446744073709551616 := by
        rw [Nat.div_lt_iff_lt_mul (Nat.pow_pos (by omega)), Nat.mul_comm, ← Nat.pow_succ]; exact hS
      have e2 : (dgs 18446744073709551616 K (m + n)).map wv ++ [wv ((m + n) / 18446744073709551616 ^ K)] = (dgs 18446744073709551616 (K + 1) (m + n)).map wv := by
        rw [dgs_snoc, Nat.mod_eq_of_lt hd]; simp
      rw [e1, e2] at h2
      refine (row_done w.heap.size c (K + 1) (m + n) _ h2 hc (by omega) hS).mono ?_
      rintro e w' ⟨j, rfl, hnt, rfl⟩
      exact ⟨_, rfl, hnt, (hb.trans (hu.below hb.size (fun k hk => by injection hk with hk; omega))).setCell (Nat.le_refl _) _⟩)
    have HE : Hid (N = K → (nval 18446744073709551616 (xs.take N) + n) / 18446744073709551616 ^ N = (m + n) / 18446744073709551616 ^ K) := Lib.hid (by
      intro h
      rw [List.take_of_length_le (by omega), rx.val, h])
    generalize (nval 18446744073709551616 (xs.take N) + n) / 18446744073709551616 ^ N = c0 at *
    generalize (m + n) / 18446744073709551616 ^ K = c9 at *
    have C1 := Lib.hid (make_any (K + 1) w (by omega) (by omega))
    have ew : ((K + 1 : Nat) : Int) = (K : Int) + 1 := by omega
    rw [ew] at C1
    have START : Hid (∀ c w1, w1 = w.alloc (.cells (zs (.int .u64 0) c).toArray 79) → Below w.heap.size w w1 ∧ w.heap.size < w1.heap.size ∧ Blk w1 w.heap.size 79 (zs (.int .u64 0) c)) := Lib.hid (by
      rintro c w1 rfl
      exact ⟨(Below.refl _ _).alloc (Nat.le_refl _) _, by simp, Blk.new _ _ _⟩)
    have hz1 : ¬ K < N := by omega
    have hz2 : ((K : Int) == 0) = false := by simp; omega
    have hz3 : ((N : Int) == 0) = false := by simp; omega
    have hg1 : (N : Int) ≤ (K : Int) := by omega
    have hg2 : (N : Int) ≤ (c1 : Int) := by omega
    have hg3 : (N : Int) ≤ (c2 : Int) := by omega
    have hg4 : (0 : Int) ≤ (N : Int) := by omega
    clear hr1 hr2 hx hy rx ry h0 h1 hS ew hK hN
    by_cases hNK : N < K
    · have hck : ¬ c1 = N := by omega
      go_enter Tryz.func50, Tryz.ntmps50
      go_wp2_with fail
      refine C1.out.mono ?_
      rintro e w1 ⟨c, hc3, hc4, rfl, hw1⟩
      obtain ⟨hb1, hl1, hk1⟩ := START.out c w1 hw1
      have P1 := Lib.hid (Q1.out c w1 hb1 hl1 hc3 hk1)
      have HB1 := Lib.hid hb1
      clear hw1 hk1 hb1
      have hg5 : (N : Int) ≤ (c : Int) := by omega
      have hg6 : (K : Int) ≤ (c : Int) := by omega
      have hck2 : ¬ c = N := by omega
      go_wp2_with fail
      go_region_held3 (fun _ => True) (trivial) ((go_at_call 65; refine (P1.out _).mono ?_; rintro e w2 ⟨rfl, hk2, hu2⟩; have HK2 := Lib.hid hk2; have HU2 := Lib.hid hu2; clear hk2 hu2))
      have P2 := Lib.hid (Q2.out c w1 w2 HB1.out hl1 HU2.out hc3 hNK HK2.out)
      go_wp2_with fail
      go_region_held3 (fun _ => True) (trivial) ((go_at_call 66; refine (P2.out _).mono ?_; rintro e w3 ⟨rfl, hk3, hu3⟩; have HK3 := Lib.hid hk3; have HU3 := Lib.hid hu3; clear hk3 hu3))
      obtain ⟨⟨cv, q0⟩, q1, q2⟩ := Q3.out c w1 w3 HB1.out hl1 HU3.out hc3 HK3.out
      have P3 := Lib.hid q2
      clear q2
      go_wp2_with fail
      refine P3.out.mono ?_
      rintro e w4 ⟨v, rfl, h1, h2⟩
      have H1 := Lib.hid h1
      have H2 := Lib.hid h2
      clear h1 h2
      go_wp2_with fail
      go_ret
      exact ⟨_, rfl, H1.out, H2.out⟩
    · obtain rfl : N = K := by omega
      obtain rfl := HE.out rfl
      go_enter Tryz.func50, Tryz.ntmps50
      go_wp2_with fail
      refine C1.out.mono ?_
      rintro e w1 ⟨c, hc3, hc4, rfl, hw1⟩
      obtain ⟨hb1, hl1, hk1⟩ := START.out c w1 hw1
      have P1 := Lib.hid (Q1.out c w1 hb1 hl1 hc3 hk1)
      have HB1 := Lib.hid hb1
      clear hw1 hk1 hb1
      have hg5 : (N : Int) ≤ (c : Int) := by omega
      go_wp2_with fail
      go_region_held3 (fun _ => True) (trivial) ((go_at_call 65; refine (P1.out _).mono ?_; rintro e w2 ⟨rfl, hk2, hu2⟩; have HK2 := Lib.hid hk2; have HU2 := Lib.hid hu2; clear hk2 hu2))
      obtain ⟨⟨cv, q0⟩, q1, q2⟩ := Q3.out c w1 w2 HB1.out hl1 HU2.out hc3 HK2.out
      have P3 := Lib.hid q2
      clear q2
      go_wp2_with fail
      refine P3.out.mono ?_
      rintro e w4 ⟨v, rfl, h1, h2⟩
      have H1 := Lib.hid h1
      have H2 := Lib.hid h2
      clear h1 h2
      go_wp2_with fail
      go_ret
      exact ⟨_, rfl, H1.out, H2.out⟩
theorem natAdd_any (m n : Nat) (x y : Value) (w : World) (hx : Nt w w.heap.size x m) (hy : Nt w w.heap.size y n) (hm : m < lim) (hn : n < lim) :
    Calls Tryz.prog 50 #[.slice none 0 0, x, y] w (NtPost (m + n) w) := by
  obtain ⟨xs, rx, hx⟩ := hx
  obtain ⟨ys, ry, hy⟩ := hy
  have lx := rx.words_le hm
  have ly := ry.words_le hn
  rcases Nat.lt_or_ge xs.length ys.length with hlt | hge
  · have C := Lib.hid (natAdd_ge ys xs n m y x w ry rx hy hx (by omega) (Nat.le_of_lt hlt))
    rw [Nat.add_comm n m] at C
    obtain ⟨a1, c1, rfl, hc1, _⟩ := id hx
    obtain ⟨a2, c2, rfl, hc2, _⟩ := id hy
    simp only [List.length_map] at hc1 hc2 C ⊢
    clear hx hy rx ry
    go_enter Tryz.func50, Tryz.ntmps50
    go_wp2_with fail
    refine C.out.mono ?_
    rintro e w1 ⟨v, rfl, h1, h2⟩
    have H1 := Lib.hid h1
    have H2 := Lib.hid h2
    clear h1 h2
    go_wp2_with fail
    go_ret
    exact ⟨_, rfl, H1.out, H2.out⟩
  · exact natAdd_ge xs ys m n x y w rx ry hx hy (by omega) hge
end Go.Proofs.YtpcnmgldmnncoaaGreatDoor
