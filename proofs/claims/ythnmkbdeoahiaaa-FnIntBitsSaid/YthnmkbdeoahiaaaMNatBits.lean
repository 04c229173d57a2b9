/- nat.and with a receiver that has no words: the operators word by word. nat.andNot with a receiver that has no words: the operators word by word. nat.or with a receiver that has no words: the operators word by word. nat.xor with a receiver that has no words: the operators word by word. -/
import Derived.Test.YthnmkbdeoahiaaaNatSub
import Derived.Test.YthnmkbdeoahiaaaBitMath
import Derived.Deep.RegionHeld3
namespace Go.Proofs.Ythnmkbdeoahiaaa
open Go.RowKit Dig
set_option linter.unusedVariables false
set_option linter.unusedSimpArgs false
set_option maxRecDepth 100000

theorem NtPost.nothing (w : World) : NtPost 0 w (.returned (.slice none 0 0)) w := ⟨_, rfl, ⟨[], rep_zero, Sl.nil _ _⟩, Below.refl _ _⟩
theorem zero_forr (a : Nat) : forr 0 a = a := by rw [forr_comm, forr_zero]
theorem zero_fxor (a : Nat) : fxor 0 a = a := by rw [fxor_comm, fxor_zero]
theorem rep_word {xs : List Nat} {m : Nat} (h : Rep 18446744073709551616 xs m) (i : Nat) : xs.getD i 0 = m / 18446744073709551616 ^ i % 18446744073709551616 := by
  rcases Nat.lt_or_ge i xs.length with hlt | hge
  · have h1 := nval_drop 18446744073709551616 (by omega) xs h.lt i (by omega)
    rw [h.val] at h1
    rw [h1, List.drop_eq_getElem_cons hlt]
    simp only [nval]
    rw [Nat.add_mul_mod_self_left, List.getD_eq_getElem?_getD, List.getElem?_eq_getElem hlt]
    exact (Nat.mod_eq_of_lt (h.lt _ (List.getElem_mem hlt))).symm
  · rw [List.getD_eq_getElem?_getD, List.getElem?_eq_none hge]
    have h1 := h.val_lt
    have h2 : m < 18446744073709551616 ^ i := Nat.lt_of_lt_of_le h1 (Nat.pow_le_pow_right (by omega) hge)
    rw [Nat.div_eq_of_lt h2]; simp
/-- the rest of the longer one is the rest of the result -/
theorem rest_words {xs : List Nat} {m S : Nat} (h : Rep 18446744073709551616 xs m) (N M c : Nat) (hN : N ≤ M) (hM : M = xs.length) (hc : M ≤ c) (hS : S / 18446744073709551616 ^ N = m / 18446744073709551616 ^ N) :
    splice (splice (zs (.int .u64 0) c) 0 ((dgs 18446744073709551616 N S).map wv)) N ((xs.drop N).map wv) = splice (zs (.int .u64 0) c) 0 ((dgs 18446744073709551616 M S).map wv) := by
  have e1 : xs.drop N = dgs 18446744073709551616 (M - N) (S / 18446744073709551616 ^ N) := by
    have h1 := nval_drop 18446744073709551616 (by omega) xs h.lt N (by omega)
    rw [h.val] at h1
    rw [hS, h1]
    have h2 := dgs_nval 18446744073709551616 (by omega) (xs.drop N) (fun x hx => h.lt x (List.mem_of_mem_drop hx))
    rw [List.length_drop, ← hM] at h2
    exact h2.symm
  have e3 := splice_splice (zs (.int .u64 0) c) 0 ((dgs 18446744073709551616 N S).map wv) ((dgs 18446744073709551616 (M - N) (S / 18446744073709551616 ^ N)).map wv) (by simp [dgs_length, zs_length]; omega)
  rw [Nat.zero_add, List.length_map, dgs_length, ← List.map_append, ← dgs_append, show N + (M - N) = M by omega] at e3
  rw [e1, e3]
/-- how many words a number below the limit has -/
theorem nt_len {xs : List Nat} {m : Nat} (h : Rep 18446744073709551616 xs m) (hm : m < lim) : xs.length ≤ 1024 := by
  have := h.words_le hm
  omega
/-- the cells of a part of a slice -/
theorem Sl.cells_from {w : World} {B b o n c : Nat} {xs : List Nat} (h : Sl w B (.slice (some ⟨b, o, none⟩) n c) (xs.map wv)) (k : Nat) (hk : k < xs.length) : ∀ j v, ((xs.drop k).map wv)[j]? = some v → w.cell? ((⟨b, o + k, none⟩ : Addr).add j) = some v := by
  intro j v hj
  rw [List.getElem?_map, List.getElem?_drop] at hj
  rcases Nat.lt_or_ge (k + j) xs.length with hlt | hge
  · obtain ⟨b', o', h1, _, -, q⟩ := h.word (k + j) hlt
    injection h1 with h1; injection h1 with h1 h2
    subst h1; subst h2
    rw [List.getElem?_eq_getElem hlt] at hj
    injection hj with hj
    rw [add_zero_off, Nat.add_assoc, q, ← hj, List.getD_eq_getElem?_getD, List.getElem?_eq_getElem hlt]; rfl
  · rw [List.getElem?_eq_none hge] at hj; cases hj

set_option maxHeartbeats 1600000 in
theorem natAnd_le (xs ys : List Nat) (m n : Nat) (x y : Value) (w : World) (rx : Rep 18446744073709551616 xs m) (ry : Rep 18446744073709551616 ys n) (hx : Sl w w.heap.size x (xs.map wv)) (hy : Sl w w.heap.size y (ys.map wv)) (lx : xs.length ≤ 1024) (ly : ys.length ≤ 1024) (hway : xs.length ≤ ys.length) :
    Calls Try.prog 84 #[.slice none 0 0, x, y] w (NtPost (fand m n) w) := by
  obtain ⟨a1, c1, rfl, hc1, hr1⟩ := id hx
  obtain ⟨a2, c2, rfl, hc2, hr2⟩ := id hy
  simp only [List.length_map] at hx hy hc1 hc2 ⊢
  obtain ⟨K1, hK1⟩ : ∃ K, K = xs.length := ⟨_, rfl⟩
  obtain ⟨K2, hK2⟩ : ∃ K, K = ys.length := ⟨_, rfl⟩
  rw [← hK1] at hx hc1 lx hway ⊢
  rw [← hK2] at hy hc2 ly hway ⊢
  have v1 := rx.val_lt
  have v2 := ry.val_lt
  rw [← hK1] at v1
  rw [← hK2] at v2
  obtain ⟨M, hM⟩ : ∃ M, M = K1 := ⟨_, rfl⟩
  obtain ⟨N, hN⟩ : ∃ N, N = K1 := ⟨_, rfl⟩
  have hNM : N ≤ M := by omega
  have hN1 : N ≤ K1 := by omega
  have hN2 : N ≤ K2 := by omega
  have hS : fand m n < 18446744073709551616 ^ M := by rw [hM]; exact Nat.lt_of_le_of_lt (and_le m n).1 v1
  by_cases h0 : M = 0
  · have e0 : fand m n = 0 := by rw [h0] at hS; simpa using hS
    have CN : Hid (Calls Try.prog 98 #[.slice none 0 0] w (NormPost none 0 0 w)) := Lib.hid (norm_any [] none 0 w.heap.size w (Sl.nil _ _) (by simp) (by simp))
    rw [e0]
    obtain rfl : K1 = M := hM.symm
    obtain rfl : K1 = N := hN.symm
    obtain rfl : K1 = 0 := h0
    have hng : ¬ K2 < 0 := by omega
    clear hx hy rx ry v1 v2 hS hr1 hr2 e0 hK1 hK2
    go_enter Try.func84, Try.ntmps84
    go_wp2_with fail
    refine (make_zero _).mono ?_
    rintro e w' ⟨rfl, rfl⟩
    go_wp2_with fail
    go_rounds 1
    go_rounds 1
    go_ret
    exact NtPost.nothing _
  · have hz1 : 0 < M := by omega
    have ROUND : Hid (∀ k, k < N → ∃ (b1 o1 b2 o2 u v : Nat), a1 = some ⟨b1, o1, none⟩ ∧ a2 = some ⟨b2, o2, none⟩ ∧ b1 < w.heap.size ∧ b2 < w.heap.size ∧ u < 18446744073709551616 ∧ v < 18446744073709551616 ∧
        fand m n / 18446744073709551616 ^ k % 18446744073709551616 = fand u v ∧ ∀ wr, Up (some w.heap.size) w wr → wr.cell? ⟨b1, o1 + k, none⟩ = some (.int .u64 (u : Int)) ∧ wr.cell? ⟨b2, o2 + k, none⟩ = some (.int .u64 (v : Int))) := Lib.hid (by
      intro k hk
      obtain ⟨b1, o1, rfl, hb1, -, q1⟩ := hx.word k (by omega)
      obtain ⟨b2, o2, rfl, hb2, -, q2⟩ := hy.word k (by omega)
      refine ⟨b1, o1, b2, o2, xs.getD k 0, ys.getD k 0, rfl, rfl, hb1, hb2, getD_lt rx.lt k (by omega), getD_lt ry.lt k (by omega), ?_, fun wr hu => ?_⟩
      · rw [(bitw_and).word m n k, ← rep_word rx k, ← rep_word ry k]
      · obtain ⟨_, _, h1, _, -, r1⟩ := (hx.up hu (Nat.le_refl _) (Nat.le_refl _)).word k (by omega)
        injection h1 with h1; injection h1 with h1 h2
        subst h1; subst h2
        obtain ⟨_, _, h1, _, -, r2⟩ := (hy.up hu (Nat.le_refl _) (Nat.le_refl _)).word k (by omega)
        injection h1 with h1; injection h1 with h1 h2
        subst h1; subst h2
        exact ⟨r1, r2⟩)
    have STEP : Hid (∀ c k wr, k < N → M ≤ c → Blk wr w.heap.size 144 (splice (zs (.int .u64 0) c) 0 ((dgs 18446744073709551616 k (fand m n)).map wv)) → (∃ v, wr.cell? ⟨w.heap.size, k, none⟩ = some v) ∧ wr.frozen? ⟨w.heap.size, k, none⟩ = false ∧
        Hid (∀ d : Nat, fand m n / 18446744073709551616 ^ k % 18446744073709551616 = d → Blk (wr.setCell ⟨w.heap.size, k, none⟩ (.int .u64 (d : Int))) w.heap.size 144 (splice (zs (.int .u64 0) c) 0 ((dgs 18446744073709551616 (k + 1) (fand m n)).map wv)))) := Lib.hid (by
      intro c k wr hk hc hb
      have hl : (splice (zs (.int .u64 0) c) 0 ((dgs 18446744073709551616 k (fand m n)).map wv)).length = c := by rw [length_splice _ _ _ (by simp [dgs_length, zs_length]; omega), zs_length]
      refine ⟨⟨_, hb.cell k (by rw [hl]; omega)⟩, hb.free k, Lib.hid ?_⟩
      rintro d rfl
      have h := hb.set k (wv (fand m n / 18446744073709551616 ^ k % 18446744073709551616))
      have e := splice_set (zs (.int .u64 0) c) 0 k ((dgs 18446744073709551616 k (fand m n)).map wv) (wv (fand m n / 18446744073709551616 ^ k % 18446744073709551616)) (by simp [dgs_length]) (by rw [zs_length]; omega)
      rw [Nat.zero_add] at e
      rw [e] at h
      rw [dgs_snoc, List.map_append]
      exact h)
    have FIN : Hid (∀ (c : Nat) (w1 w2 : World), Below w.heap.size w w1 → Up (some w.heap.size) w1 w2 → w.heap.size < w1.heap.size → M ≤ c → Blk w2 w.heap.size 144 (splice (zs (.int .u64 0) c) 0 ((dgs 18446744073709551616 M (fand m n)).map wv)) →
          Calls Try.prog 98 #[.slice (some ⟨w.heap.size, 0, none⟩) M c] w2 (NtPost (fand m n) w)) := Lib.hid (by
        intro c w1 w2 hb hu hlt hc hk
        refine (row_done w.heap.size c M (fand m n) _ hk hc (by omega) hS).mono ?_
        rintro e w' ⟨j, rfl, hnt, rfl⟩
        exact ⟨_, rfl, hnt, hb.trans (hu.below hb.size (fun k hk => by injection hk with hk; omega))⟩)
    have START : Hid (∀ c w1, w1 = w.alloc (.cells (zs (.int .u64 0) c).toArray 144) → Below w.heap.size w w1 ∧ w.heap.size < w1.heap.size ∧ Blk w1 w.heap.size 144 (splice (zs (.int .u64 0) c) 0 ((dgs 18446744073709551616 0 (fand m n)).map wv)) ∧ Up (some w.heap.size) w w1) := Lib.hid (by
      rintro c w1 rfl
      refine ⟨(Below.refl _ _).alloc (Nat.le_refl _) _, by simp, ?_, (Up.refl _ _).alloc _⟩
      simp only [dgs, List.map_nil, splice_nil]
      exact Blk.new _ _ _)
    have HF : Hid (∀ u v : Nat, u < 18446744073709551616 → v < 18446744073709551616 → bits .and .u64 (u : Int) (v : Int) = ((fand u v : Nat) : Int)) := Lib.hid word_and
    have C1 := Lib.hid (make_any2 M w (by omega) (by omega))
    clear hx hy rx ry v1 v2 hS hr1 hr2 hK1 hK2
    obtain rfl : K1 = M := hM.symm
    obtain rfl : K1 = N := hN.symm
    have hng : ¬ K2 < K1 := by omega
    go_enter Try.func84, Try.ntmps84
    go_wp2_with fail
    refine C1.out.mono ?_
    rintro e w1 ⟨c, hc3, hc4, hc5, rfl, hw1⟩
    obtain ⟨hb1, hl1, hk1, hu1⟩ := START.out c w1 hw1
    have HK1 := Lib.hid hk1
    have HB1 := Lib.hid hb1
    have HU1 := Lib.hid hu1
    clear hw1 hk1 hb1 hu1
    go_wp2_with fail
    go_loopw [9] (fun i wr => ∃ k : Nat, k ≤ K1 ∧ i = .int .i64 k ∧ Hid (Blk wr w.heap.size 144 (splice (zs (.int .u64 0) c) 0 ((dgs 18446744073709551616 k (fand m n)).map wv))) ∧ Hid (Up (some w.heap.size) w1 wr)) (fun i _ => K1 - (intOf i).toNat)
    case atStart => exact ⟨0, Nat.zero_le _, rfl, HK1, Lib.hid (Up.refl _ _)⟩
    case round =>
      obtain ⟨k, hk, rfl, hb, hu⟩ := hrel
      by_cases hlt : k < K1
      · obtain ⟨b1, o1, b2, o2, u, v, rfl, rfl, hb1, hb2, gu, gv, hd, hcells⟩ := ROUND.out k hlt
        obtain ⟨⟨cv, p1⟩, f1, hnext⟩ := STEP.out c k wr hlt hc3 hb.out
        have hu2 : Up (some w.heap.size) w wr := HU1.out.trans hu.out
        obtain ⟨q1, q2⟩ := hcells wr hu2
        have EQ := Lib.hid (HF.out u v gu gv)
        have HN := Lib.hid (hnext.out _ hd)
        have KS : Hid (∀ q val, ((wr.drewN q).setCell ⟨w.heap.size, k, none⟩ val).cell? ⟨b1, o1 + k, none⟩ = some (.int .u64 (u : Int)) ∧ ((wr.drewN q).setCell ⟨w.heap.size, k, none⟩ val).cell? ⟨b2, o2 + k, none⟩ = some (.int .u64 (v : Int))) := Lib.hid (fun q val => hcells _ ((hu2.drewN q).set k val))
        have hne1 : ¬ w.heap.size = b1 := by omega
        have hne2 : ¬ w.heap.size = b2 := by omega
        have hne3 : ¬ b1 = w.heap.size := by omega
        have hne4 : ¬ b2 = w.heap.size := by omega
        have hi1 : (0 : Int) ≤ (k : Int) := by omega
        have hi2 : (k : Int) < (K1 : Int) := by omega
        have hi3 : (k : Int) < (K2 : Int) := by omega
        have hi4 : (k : Int) < (K1 : Int) := by omega
        clear hcells hd hu2
        go_wp2_with fail
        go_region_held3 (fun w' => w'.cell? ⟨b1, o1 + k, none⟩ = some (.int .u64 (u : Int)) ∧ w'.cell? ⟨b2, o2 + k, none⟩ = some (.int .u64 (v : Int))) (first | (refine ⟨?_, ?_⟩ <;> assumption) | exact KS.out 1 _ | (refine ⟨?_, ?_⟩ <;> go_simp)) (fail)
        go_wp2_with fail
        go_roundw
        case rel => exact ⟨k + 1, by omega, by go_num, Lib.hid (by rw [EQ.out]; exact HN.out.drewN 1), Lib.hid ((hu.out.drewN 1).set _ _)⟩
        case measure => simp [intOf]; omega
      · obtain rfl : k = K1 := by omega
        have P3 := Lib.hid (FIN.out c w1 wr HB1.out hu.out hl1 hc3 hb.out)
        go_wp2_with fail
        refine P3.out.mono ?_
        rintro e w4 ⟨v, rfl, h1, h2⟩
        have H1 := Lib.hid h1
        have H2 := Lib.hid h2
        clear h1 h2
        go_wp2_with fail
        go_ret
        exact ⟨_, rfl, H1.out, H2.out⟩

set_option maxHeartbeats 1600000 in
theorem natAnd_gt (xs ys : List Nat) (m n : Nat) (x y : Value) (w : World) (rx : Rep 18446744073709551616 xs m) (ry : Rep 18446744073709551616 ys n) (hx : Sl w w.heap.size x (xs.map wv)) (hy : Sl w w.heap.size y (ys.map wv)) (lx : xs.length ≤ 1024) (ly : ys.length ≤ 1024) (hway : ys.length < xs.length) :
    Calls Try.prog 84 #[.slice none 0 0, x, y] w (NtPost (fand m n) w) := by
  obtain ⟨a1, c1, rfl, hc1, hr1⟩ := id hx
  obtain ⟨a2, c2, rfl, hc2, hr2⟩ := id hy
  simp only [List.length_map] at hx hy hc1 hc2 ⊢
  obtain ⟨K1, hK1⟩ : ∃ K, K = xs.length := ⟨_, rfl⟩
  obtain ⟨K2, hK2⟩ : ∃ K, K = ys.length := ⟨_, rfl⟩
  rw [← hK1] at hx hc1 lx hway ⊢
  rw [← hK2] at hy hc2 ly hway ⊢
  have v1 := rx.val_lt
  have v2 := ry.val_lt
  rw [← hK1] at v1
  rw [← hK2] at v2
  obtain ⟨M, hM⟩ : ∃ M, M = K2 := ⟨_, rfl⟩
  obtain ⟨N, hN⟩ : ∃ N, N = K2 := ⟨_, rfl⟩
  have hNM : N ≤ M := by omega
  have hN1 : N ≤ K1 := by omega
  have hN2 : N ≤ K2 := by omega
  have hS : fand m n < 18446744073709551616 ^ M := by rw [hM]; exact Nat.lt_of_le_of_lt (and_le m n).2 v2
  by_cases h0 : M = 0
  · have e0 : fand m n = 0 := by rw [h0] at hS; simpa using hS
    have CN : Hid (Calls Try.prog 98 #[.slice none 0 0] w (NormPost none 0 0 w)) := Lib.hid (norm_any [] none 0 w.heap.size w (Sl.nil _ _) (by simp) (by simp))
    rw [e0]
    obtain rfl : K2 = M := hM.symm
    obtain rfl : K2 = N := hN.symm
    obtain rfl : K2 = 0 := h0
    have hng : 0 < K1 := by omega
    clear hx hy rx ry v1 v2 hS hr1 hr2 e0 hK1 hK2
    go_enter Try.func84, Try.ntmps84
    go_wp2_with fail
    refine (make_zero _).mono ?_
    rintro e w' ⟨rfl, rfl⟩
    go_wp2_with fail
    go_rounds 1
    go_rounds 1
    go_ret
    exact NtPost.nothing _
  · have hz1 : 0 < M := by omega
    have ROUND : Hid (∀ k, k < N → ∃ (b1 o1 b2 o2 u v : Nat), a1 = some ⟨b1, o1, none⟩ ∧ a2 = some ⟨b2, o2, none⟩ ∧ b1 < w.heap.size ∧ b2 < w.heap.size ∧ u < 18446744073709551616 ∧ v < 18446744073709551616 ∧
        fand m n / 18446744073709551616 ^ k % 18446744073709551616 = fand u v ∧ ∀ wr, Up (some w.heap.size) w wr → wr.cell? ⟨b1, o1 + k, none⟩ = some (.int .u64 (u : Int)) ∧ wr.cell? ⟨b2, o2 + k, none⟩ = some (.int .u64 (v : Int))) := Lib.hid (by
      intro k hk
      obtain ⟨b1, o1, rfl, hb1, -, q1⟩ := hx.word k (by omega)
      obtain ⟨b2, o2, rfl, hb2, -, q2⟩ := hy.word k (by omega)
      refine ⟨b1, o1, b2, o2, xs.getD k 0, ys.getD k 0, rfl, rfl, hb1, hb2, getD_lt rx.lt k (by omega), getD_lt ry.lt k (by omega), ?_, fun wr hu => ?_⟩
      · rw [(bitw_and).word m n k, ← rep_word rx k, ← rep_word ry k]
      · obtain ⟨_, _, h1, _, -, r1⟩ := (hx.up hu (Nat.le_refl _) (Nat.le_refl _)).word k (by omega)
        injection h1 with h1; injection h1 with h1 h2
        subst h1; subst h2
        obtain ⟨_, _, h1, _, -, r2⟩ := (hy.up hu (Nat.le_refl _) (Nat.le_refl _)).word k (by omega)
        injection h1 with h1; injection h1 with h1 h2
        subst h1; subst h2
        exact ⟨r1, r2⟩)
    have STEP : Hid (∀ c k wr, k < N → M ≤ c → Blk wr w.heap.size 144 (splice (zs (.int .u64 0) c) 0 ((dgs 18446744073709551616 k (fand m n)).map wv)) → (∃ v, wr.cell? ⟨w.heap.size, k, none⟩ = some v) ∧ wr.frozen? ⟨w.heap.size, k, none⟩ = false ∧
        Hid (∀ d : Nat, fand m n / 18446744073709551616 ^ k % 18446744073709551616 = d → Blk (wr.setCell ⟨w.heap.size, k, none⟩ (.int .u64 (d : Int))) w.heap.size 144 (splice (zs (.int .u64 0) c) 0 ((dgs 18446744073709551616 (k + 1) (fand m n)).map wv)))) := Lib.hid (by
      intro c k wr hk hc hb
      have hl : (splice (zs (.int .u64 0) c) 0 ((dgs 18446744073709551616 k (fand m n)).map wv)).length = c := by rw [length_splice _ _ _ (by simp [dgs_length, zs_length]; omega), zs_length]
      refine ⟨⟨_, hb.cell k (by rw [hl]; omega)⟩, hb.free k, Lib.hid ?_⟩
      rintro d rfl
      have h := hb.set k (wv (fand m n / 18446744073709551616 ^ k % 18446744073709551616))
      have e := splice_set (zs (.int .u64 0) c) 0 k ((dgs 18446744073709551616 k (fand m n)).map wv) (wv (fand m n / 18446744073709551616 ^ k % 18446744073709551616)) (by simp [dgs_length]) (by rw [zs_length]; omega)
      rw [Nat.zero_add] at e
      rw [e] at h
      rw [dgs_snoc, List.map_append]
      exact h)
    have FIN : Hid (∀ (c : Nat) (w1 w2 : World), Below w.heap.size w w1 → Up (some w.heap.size) w1 w2 → w.heap.size < w1.heap.size → M ≤ c → Blk w2 w.heap.size 144 (splice (zs (.int .u64 0) c) 0 ((dgs 18446744073709551616 M (fand m n)).map wv)) →
          Calls Try.prog 98 #[.slice (some ⟨w.heap.size, 0, none⟩) M c] w2 (NtPost (fand m n) w)) := Lib.hid (by
        intro c w1 w2 hb hu hlt hc hk
        refine (row_done w.heap.size c M (fand m n) _ hk hc (by omega) hS).mono ?_
        rintro e w' ⟨j, rfl, hnt, rfl⟩
        exact ⟨_, rfl, hnt, hb.trans (hu.below hb.size (fun k hk => by injection hk with hk; omega))⟩)
    have START : Hid (∀ c w1, w1 = w.alloc (.cells (zs (.int .u64 0) c).toArray 144) → Below w.heap.size w w1 ∧ w.heap.size < w1.heap.size ∧ Blk w1 w.heap.size 144 (splice (zs (.int .u64 0) c) 0 ((dgs 18446744073709551616 0 (fand m n)).map wv)) ∧ Up (some w.heap.size) w w1) := Lib.hid (by
      rintro c w1 rfl
      refine ⟨(Below.refl _ _).alloc (Nat.le_refl _) _, by simp, ?_, (Up.refl _ _).alloc _⟩
      simp only [dgs, List.map_nil, splice_nil]
      exact Blk.new _ _ _)
    have HF : Hid (∀ u v : Nat, u < 18446744073709551616 → v < 18446744073709551616 → bits .and .u64 (u : Int) (v : Int) = ((fand u v : Nat) : Int)) := Lib.hid word_and
    have C1 := Lib.hid (make_any2 M w (by omega) (by omega))
    clear hx hy rx ry v1 v2 hS hr1 hr2 hK1 hK2
    obtain rfl : K2 = M := hM.symm
    obtain rfl : K2 = N := hN.symm
    have hng : K2 < K1 := by omega
    go_enter Try.func84, Try.ntmps84
    go_wp2_with fail
    refine C1.out.mono ?_
    rintro e w1 ⟨c, hc3, hc4, hc5, rfl, hw1⟩
    obtain ⟨hb1, hl1, hk1, hu1⟩ := START.out c w1 hw1
    have HK1 := Lib.hid hk1
    have HB1 := Lib.hid hb1
    have HU1 := Lib.hid hu1
    clear hw1 hk1 hb1 hu1
    go_wp2_with fail
    go_loopw [9] (fun i wr => ∃ k : Nat, k ≤ K2 ∧ i = .int .i64 k ∧ Hid (Blk wr w.heap.size 144 (splice (zs (.int .u64 0) c) 0 ((dgs 18446744073709551616 k (fand m n)).map wv))) ∧ Hid (Up (some w.heap.size) w1 wr)) (fun i _ => K2 - (intOf i).toNat)
    case atStart => exact ⟨0, Nat.zero_le _, rfl, HK1, Lib.hid (Up.refl _ _)⟩
    case round =>
      obtain ⟨k, hk, rfl, hb, hu⟩ := hrel
      by_cases hlt : k < K2
      · obtain ⟨b1, o1, b2, o2, u, v, rfl, rfl, hb1, hb2, gu, gv, hd, hcells⟩ := ROUND.out k hlt
        obtain ⟨⟨cv, p1⟩, f1, hnext⟩ := STEP.out c k wr hlt hc3 hb.out
        have hu2 : Up (some w.heap.size) w wr := HU1.out.trans hu.out
        obtain ⟨q1, q2⟩ := hcells wr hu2
        have EQ := Lib.hid (HF.out u v gu gv)
        have HN := Lib.hid (hnext.out _ hd)
        have KS : Hid (∀ q val, ((wr.drewN q).setCell ⟨w.heap.size, k, none⟩ val).cell? ⟨b1, o1 + k, none⟩ = some (.int .u64 (u : Int)) ∧ ((wr.drewN q).setCell ⟨w.heap.size, k, none⟩ val).cell? ⟨b2, o2 + k, none⟩ = some (.int .u64 (v : Int))) := Lib.hid (fun q val => hcells _ ((hu2.drewN q).set k val))
        have hne1 : ¬ w.heap.size = b1 := by omega
        have hne2 : ¬ w.heap.size = b2 := by omega
        have hne3 : ¬ b1 = w.heap.size := by omega
        have hne4 : ¬ b2 = w.heap.size := by omega
        have hi1 : (0 : Int) ≤ (k : Int) := by omega
        have hi2 : (k : Int) < (K1 : Int) := by omega
        have hi3 : (k : Int) < (K2 : Int) := by omega
        have hi4 : (k : Int) < (K2 : Int) := by omega
        clear hcells hd hu2
        go_wp2_with fail
        go_region_held3 (fun w' => w'.cell? ⟨b1, o1 + k, none⟩ = some (.int .u64 (u : Int)) ∧ w'.cell? ⟨b2, o2 + k, none⟩ = some (.int .u64 (v : Int))) (first | (refine ⟨?_, ?_⟩ <;> assumption) | exact KS.out 1 _ | (refine ⟨?_, ?_⟩ <;> go_simp)) (fail)
        go_wp2_with fail
        go_roundw
        case rel => exact ⟨k + 1, by omega, by go_num, Lib.hid (by rw [EQ.out]; exact HN.out.drewN 1), Lib.hid ((hu.out.drewN 1).set _ _)⟩
        case measure => simp [intOf]; omega
      · obtain rfl : k = K2 := by omega
        have P3 := Lib.hid (FIN.out c w1 wr HB1.out hu.out hl1 hc3 hb.out)
        go_wp2_with fail
        refine P3.out.mono ?_
        rintro e w4 ⟨v, rfl, h1, h2⟩
        have H1 := Lib.hid h1
        have H2 := Lib.hid h2
        clear h1 h2
        go_wp2_with fail
        go_ret
        exact ⟨_, rfl, H1.out, H2.out⟩

theorem natAnd_any (m n : Nat) (x y : Value) (w : World) (hx : Nt w w.heap.size x m) (hy : Nt w w.heap.size y n) (hm : m < lim) (hn : n < lim) :
    Calls Try.prog 84 #[.slice none 0 0, x, y] w (NtPost (fand m n) w) := by
  obtain ⟨xs, rx, sx⟩ := hx
  obtain ⟨ys, ry, sy⟩ := hy
  have lx := nt_len rx hm
  have ly := nt_len ry hn
  rcases Nat.lt_or_ge ys.length xs.length with h | h
  · exact natAnd_gt xs ys m n x y w rx ry sx sy lx ly h
  · exact natAnd_le xs ys m n x y w rx ry sx sy lx ly h
end Go.Proofs.Ythnmkbdeoahiaaa

namespace Go.Proofs.Ythnmkbdeoahiaaa
open Go.RowKit Dig
set_option linter.unusedVariables false
set_option linter.unusedSimpArgs false
set_option maxRecDepth 100000

set_option maxHeartbeats 1600000 in
theorem natAndNot_le (xs ys : List Nat) (m n : Nat) (x y : Value) (w : World) (rx : Rep 18446744073709551616 xs m) (ry : Rep 18446744073709551616 ys n) (hx : Sl w w.heap.size x (xs.map wv)) (hy : Sl w w.heap.size y (ys.map wv)) (lx : xs.length ≤ 1024) (ly : ys.length ≤ 1024) (hway : ys.length ≤ xs.length) :
    Calls Try.prog 85 #[.slice none 0 0, x, y] w (NtPost (anot m n) w) := by
  obtain ⟨a1, c1, rfl, hc1, hr1⟩ := id hx
  obtain ⟨a2, c2, rfl, hc2, hr2⟩ := id hy
  simp only [List.length_map] at hx hy hc1 hc2 ⊢
  obtain ⟨K1, hK1⟩ : ∃ K, K = xs.length := ⟨_, rfl⟩
  obtain ⟨K2, hK2⟩ : ∃ K, K = ys.length := ⟨_, rfl⟩
  rw [← hK1] at hx hc1 lx hway ⊢
  rw [← hK2] at hy hc2 ly hway ⊢
  have v1 := rx.val_lt
  have v2 := ry.val_lt
  rw [← hK1] at v1
  rw [← hK2] at v2
  obtain ⟨M, hM⟩ : ∃ M, M = K1 := ⟨_, rfl⟩
  obtain ⟨N, hN⟩ : ∃ N, N = K2 := ⟨_, rfl⟩
  have hNM : N ≤ M := by omega
  have hN1 : N ≤ K1 := by omega
  have hN2 : N ≤ K2 := by omega
  have hS : anot m n < 18446744073709551616 ^ M := by rw [hM]; exact Nat.lt_of_le_of_lt (by have := anot_fand m n; omega) v1
  by_cases h0 : M = 0
  · have e0 : anot m n = 0 := by rw [h0] at hS; simpa using hS
    have CN : Hid (∀ W : World, Calls Try.prog 98 #[.slice none 0 0] W (NormPost none 0 0 W)) := Lib.hid (fun W => norm_any [] none 0 W.heap.size W (Sl.nil _ _) (by simp) (by simp))
    rw [e0]
    obtain rfl : K1 = M := hM.symm
    obtain rfl : K2 = N := hN.symm
    obtain rfl : K1 = 0 := h0
    obtain rfl : K2 = 0 := by omega
    clear hx hy rx ry v1 v2 hS hr1 hr2 e0 hK1 hK2
    have cpz := fun (W : World) (ap : Option Addr) (cc : Nat) => run_copy_none (P := Try.prog) W 87 87 3 144 none ap 0 0 0 cc Try.underlying87 (by kernel_rfl) rfl
    by_cases hcx : c1 = 0
    all_goals
      go_enter Try.func85, Try.ntmps85
      go_wp2_with fail
      refine (make_zero _).mono ?_
      rintro e w' ⟨rfl, rfl⟩
      go_wp2_with fail
      go_rounds 1
      go_region_held3 (fun _ => True) (trivial) (fail)
      go_wp2_with fail
      refine (CN.out _).mono ?_
      rintro e w' ⟨rfl, rfl⟩
      go_wp2_with fail
      go_ret
      exact ⟨_, rfl, ⟨[], rep_zero, Sl.nil _ _⟩, (Below.refl _ _).drew⟩
  · have hz1 : 0 < M := by omega
    have ROUND : Hid (∀ k, k < N → ∃ (b1 o1 b2 o2 u v : Nat), a1 = some ⟨b1, o1, none⟩ ∧ a2 = some ⟨b2, o2, none⟩ ∧ b1 < w.heap.size ∧ b2 < w.heap.size ∧ u < 18446744073709551616 ∧ v < 18446744073709551616 ∧
        anot m n / 18446744073709551616 ^ k % 18446744073709551616 = anot u v ∧ ∀ wr, Up (some w.heap.size) w wr → wr.cell? ⟨b1, o1 + k, none⟩ = some (.int .u64 (u : Int)) ∧ wr.cell? ⟨b2, o2 + k, none⟩ = some (.int .u64 (v : Int))) := Lib.hid (by
      intro k hk
      obtain ⟨b1, o1, rfl, hb1, -, q1⟩ := hx.word k (by omega)
      obtain ⟨b2, o2, rfl, hb2, -, q2⟩ := hy.word k (by omega)
      refine ⟨b1, o1, b2, o2, xs.getD k 0, ys.getD k 0, rfl, rfl, hb1, hb2, getD_lt rx.lt k (by omega), getD_lt ry.lt k (by omega), ?_, fun wr hu => ?_⟩
      · rw [(bitw_anot).word m n k, ← rep_word rx k, ← rep_word ry k]
      · obtain ⟨_, _, h1, _, -, r1⟩ := (hx.up hu (Nat.le_refl _) (Nat.le_refl _)).word k (by omega)
        injection h1 with h1; injection h1 with h1 h2
        subst h1; subst h2
        obtain ⟨_, _, h1, _, -, r2⟩ := (hy.up hu (Nat.le_refl _) (Nat.le_refl _)).word k (by omega)
        injection h1 with h1; injection h1 with h1 h2
        subst h1; subst h2
        exact ⟨r1, r2⟩)
    have STEP : Hid (∀ c k wr, k < N → M ≤ c → Blk wr w.heap.size 144 (splice (zs (.int .u64 0) c) 0 ((dgs 18446744073709551616 k (anot m n)).map wv)) → (∃ v, wr.cell? ⟨w.heap.size, k, none⟩ = some v) ∧ wr.frozen? ⟨w.heap.size, k, none⟩ = false ∧
        Hid (∀ d : Nat, anot m n / 18446744073709551616 ^ k % 18446744073709551616 = d → Blk (wr.setCell ⟨w.heap.size, k, none⟩ (.int .u64 (d : Int))) w.heap.size 144 (splice (zs (.int .u64 0) c) 0 ((dgs 18446744073709551616 (k + 1) (anot m n)).map wv)))) := Lib.hid (by
      intro c k wr hk hc hb
      have hl : (splice (zs (.int .u64 0) c) 0 ((dgs 18446744073709551616 k (anot m n)).map wv)).length = c := by rw [length_splice _ _ _ (by simp [dgs_length, zs_length]; omega), zs_length]
      refine ⟨⟨_, hb.cell k (by rw [hl]; omega)⟩, hb.free k, Lib.hid ?_⟩
      rintro d rfl
      have h := hb.set k (wv (anot m n / 18446744073709551616 ^ k % 18446744073709551616))
      have e := splice_set (zs (.int .u64 0) c) 0 k ((dgs 18446744073709551616 k (anot m n)).map wv) (wv (anot m n / 18446744073709551616 ^ k % 18446744073709551616)) (by simp [dgs_length]) (by rw [zs_length]; omega)
      rw [Nat.zero_add] at e
      rw [e] at h
      rw [dgs_snoc, List.map_append]
      exact h)
    have FIN : Hid (∀ (c : Nat) (w1 w2 : World), Below w.heap.size w w1 → Up (some w.heap.size) w1 w2 → w.heap.size < w1.heap.size → M ≤ c → Blk w2 w.heap.size 144 (splice (zs (.int .u64 0) c) 0 ((dgs 18446744073709551616 M (anot m n)).map wv)) →
          Calls Try.prog 98 #[.slice (some ⟨w.heap.size, 0, none⟩) M c] w2 (NtPost (anot m n) w)) := Lib.hid (by
        intro c w1 w2 hb hu hlt hc hk
        refine (row_done w.heap.size c M (anot m n) _ hk hc (by omega) hS).mono ?_
        rintro e w' ⟨j, rfl, hnt, rfl⟩
        exact ⟨_, rfl, hnt, hb.trans (hu.below hb.size (fun k hk => by injection hk with hk; omega))⟩)
    have START : Hid (∀ c w1, w1 = w.alloc (.cells (zs (.int .u64 0) c).toArray 144) → Below w.heap.size w w1 ∧ w.heap.size < w1.heap.size ∧ Blk w1 w.heap.size 144 (splice (zs (.int .u64 0) c) 0 ((dgs 18446744073709551616 0 (anot m n)).map wv)) ∧ Up (some w.heap.size) w w1) := Lib.hid (by
      rintro c w1 rfl
      refine ⟨(Below.refl _ _).alloc (Nat.le_refl _) _, by simp, ?_, (Up.refl _ _).alloc _⟩
      simp only [dgs, List.map_nil, splice_nil]
      exact Blk.new _ _ _)
    have HF : Hid (∀ u v : Nat, u < 18446744073709551616 → v < 18446744073709551616 → bits .andNot .u64 (u : Int) (v : Int) = ((anot u v : Nat) : Int)) := Lib.hid bits_andNot_u64_nat
    have C1 := Lib.hid (make_any2 M w (by omega) (by omega))
    obtain ⟨bl, ol, rfl, hbl, -, _⟩ := hx.word 0 (by omega)
    have hSN : anot m n / 18446744073709551616 ^ N = m / 18446744073709551616 ^ N := by
      rw [(bitw_anot).high m n N, Nat.div_eq_of_lt (show n < 18446744073709551616 ^ N by rw [hN]; assumption), anot_zero]
    have CP : Hid (∀ c, M ≤ c → splice (splice (zs (.int .u64 0) c) 0 ((dgs 18446744073709551616 N (anot m n)).map wv)) N ((xs.drop N).map wv) = splice (zs (.int .u64 0) c) 0 ((dgs 18446744073709551616 M (anot m n)).map wv)) := Lib.hid (fun c hc => rest_words rx N M c hNM (by omega) hc hSN)
    have NN : Hid (((xs.drop N).map wv).length = Nat.min (M - N) (M - N)) := Lib.hid (by simp; omega)
    have FF : Hid (∀ c, M ≤ c → N + ((xs.drop N).map wv).length ≤ (splice (zs (.int .u64 0) c) 0 ((dgs 18446744073709551616 N (anot m n)).map wv)).length) := Lib.hid (by
      intro c hc
      rw [length_splice _ _ _ (by simp [dgs_length, zs_length]; omega), zs_length]
      simp; omega)
    have OO := Lib.hid (oneCell_wv (xs.drop N))
    have SRC : Hid (N < M → ∀ W, Up (some w.heap.size) w W → ∀ j v, ((xs.drop N).map wv)[j]? = some v → W.cell? ((⟨bl, ol + N, none⟩ : Addr).add j) = some v) := Lib.hid (fun h W hu => (hx.up hu (Nat.le_refl _) (Nat.le_refl _)).cells_from N (by omega))
    have NIL : Hid (N = M → xs.drop N = []) := Lib.hid (fun h => List.drop_of_length_le (by omega))
    clear hx hy rx ry v1 v2 hS hr1 hr2 hK1 hK2
    obtain rfl : K1 = M := hM.symm
    obtain rfl : K2 = N := hN.symm
    have hng : ¬ K1 < K2 := by omega
    go_enter Try.func85, Try.ntmps85
    go_wp2_with fail
    refine C1.out.mono ?_
    rintro e w1 ⟨c, hc3, hc4, hc5, rfl, hw1⟩
    obtain ⟨hb1, hl1, hk1, hu1⟩ := START.out c w1 hw1
    have HK1 := Lib.hid hk1
    have HB1 := Lib.hid hb1
    have HU1 := Lib.hid hu1
    clear hw1 hk1 hb1 hu1
    go_wp2_with fail
    go_loopw [9] (fun i wr => ∃ k : Nat, k ≤ K2 ∧ i = .int .i64 k ∧ Hid (Blk wr w.heap.size 144 (splice (zs (.int .u64 0) c) 0 ((dgs 18446744073709551616 k (anot m n)).map wv))) ∧ Hid (Up (some w.heap.size) w1 wr)) (fun i _ => K2 - (intOf i).toNat)
    case atStart => exact ⟨0, Nat.zero_le _, rfl, HK1, Lib.hid (Up.refl _ _)⟩
    case round =>
      obtain ⟨k, hk, rfl, hb, hu⟩ := hrel
      by_cases hlt : k < K2
      · obtain ⟨b1, o1, b2, o2, u, v, hq1, rfl, hb1, hb2, gu, gv, hd, hcells⟩ := ROUND.out k hlt
        injection hq1 with hq1; injection hq1 with hq1 hq2
        obtain rfl : b1 = bl := hq1.symm
        obtain rfl : o1 = ol := hq2.symm
        obtain ⟨⟨cv, p1⟩, f1, hnext⟩ := STEP.out c k wr hlt hc3 hb.out
        have hu2 : Up (some w.heap.size) w wr := HU1.out.trans hu.out
        obtain ⟨q1, q2⟩ := hcells wr hu2
        have EQ := Lib.hid (HF.out u v gu gv)
        have HN := Lib.hid (hnext.out _ hd)
        have KS : Hid (∀ q val, ((wr.drewN q).setCell ⟨w.heap.size, k, none⟩ val).cell? ⟨b1, o1 + k, none⟩ = some (.int .u64 (u : Int)) ∧ ((wr.drewN q).setCell ⟨w.heap.size, k, none⟩ val).cell? ⟨b2, o2 + k, none⟩ = some (.int .u64 (v : Int))) := Lib.hid (fun q val => hcells _ ((hu2.drewN q).set k val))
        have hne1 : ¬ w.heap.size = b1 := by omega
        have hne2 : ¬ w.heap.size = b2 := by omega
        have hne3 : ¬ b1 = w.heap.size := by omega
        have hne4 : ¬ b2 = w.heap.size := by omega
        have hi1 : (0 : Int) ≤ (k : Int) := by omega
        have hi2 : (k : Int) < (K1 : Int) := by omega
        have hi3 : (k : Int) < (K2 : Int) := by omega
        have hi4 : (k : Int) < (K1 : Int) := by omega
        clear hcells hd hu2
        go_wp2_with fail
        go_region_held3 (fun w' => w'.cell? ⟨b1, o1 + k, none⟩ = some (.int .u64 (u : Int)) ∧ w'.cell? ⟨b2, o2 + k, none⟩ = some (.int .u64 (v : Int))) (first | (refine ⟨?_, ?_⟩ <;> assumption) | exact KS.out 1 _ | (refine ⟨?_, ?_⟩ <;> go_simp)) (fail)
        go_wp2_with fail
        go_roundw
        case rel => exact ⟨k + 1, by omega, by go_num, Lib.hid (by rw [EQ.out]; exact HN.out.drewN 1), Lib.hid ((hu.out.drewN 1).set _ _)⟩
        case measure => simp [intOf]; omega
      · obtain rfl : K2 = k := by omega
        have HBR := Lib.hid hb.out
        have HUR := Lib.hid (HU1.out.trans hu.out)
        have HUO := Lib.hid hu.out
        have ff := Lib.hid (FF.out c hc3)
        have hg1 : (0 : Int) ≤ (K2 : Int) := by omega
        have hg2 : (K2 : Int) ≤ (K1 : Int) := by omega
        have hg3 : (K1 : Int) ≤ (c1 : Int) := by omega
        have hg4 : (K1 : Int) ≤ (c : Int) := by omega
        clear ROUND STEP START HF C1 FF hb hu
        by_cases hnm : K2 = K1
        · clear NIL SRC
          obtain rfl : K2 = K1 := hnm
          have P3 := Lib.hid (FIN.out c w1 wr.drew HB1.out (HUO.out.drewN 1) hl1 hc3 (HBR.out.drewN 1))
          have cpz := fun (W : World) (dp ap : Option Addr) (dc cc : Nat) => run_copy_none (P := Try.prog) W 87 87 3 144 dp ap 0 dc 0 cc Try.underlying87 (by kernel_rfl) rfl
          by_cases hck : c = K2 <;> by_cases hcx : c1 = K2
          all_goals
            try (have hck2 : K2 = c := hck.symm; subst hck2)
            go_wp2_with fail
            go_region_held3 (fun _ => True) (trivial) (fail)
            go_wp2_with fail
            refine P3.out.mono ?_
            rintro e w4 ⟨v, rfl, h1, h2⟩
            have H1 := Lib.hid h1
            have H2 := Lib.hid h2
            clear h1 h2
            go_wp2_with fail
            go_ret
            exact ⟨_, rfl, H1.out, H2.out⟩
        · have hlt2 : K2 < K1 := by omega
          have HP : Hid (∀ q, 0 < ((xs.drop K2).map wv).length → ∀ j v, ((xs.drop K2).map wv)[j]? = some v → (wr.drewN q).cell? ((⟨bl, ol + K2, none⟩ : Addr).add j) = some v) := Lib.hid (fun q _ => SRC.out hlt2 _ (HUR.out.drewN q))
          have hck : ¬ c = K2 := by omega
          have hcx : ¬ c1 = K2 := by omega
          clear NIL SRC
          go_wp2_with fail
          go_region_held3 (fun _ => True) (trivial) ((refine step_copy_up (by rfl) (.tmp 41) (.tmp 45) 87 87 (by rfl) 144 Try.underlying87 (by kernel_rfl) _ _ _ _ _ _ (by rfl) (by rfl) w.heap.size K2 _ 144 (by exact HBR.out) ((xs.drop K2).map wv) NN.out (fun h => ⟨by simp, _, rfl, HP.out _ h⟩) ff.out OO.out w1 (by exact (HUO.out.drewN _)) ?_; intro w2 hk2 hu2))
          rw [CP.out c hc3] at hk2
          have P3 := Lib.hid (FIN.out c w1 w2 HB1.out hu2.out hl1 hc3 hk2.out)
          go_wp2_with fail
          refine P3.out.mono ?_
          rintro e w4 ⟨v, rfl, h1, h2⟩
          have H1 := Lib.hid h1
          have H2 := Lib.hid h2
          clear h1 h2
          go_wp2_with fail
          go_ret
          exact ⟨_, rfl, H1.out, H2.out⟩

set_option maxHeartbeats 1600000 in
theorem natAndNot_gt (xs ys : List Nat) (m n : Nat) (x y : Value) (w : World) (rx : Rep 18446744073709551616 xs m) (ry : Rep 18446744073709551616 ys n) (hx : Sl w w.heap.size x (xs.map wv)) (hy : Sl w w.heap.size y (ys.map wv)) (lx : xs.length ≤ 1024) (ly : ys.length ≤ 1024) (hway : xs.length < ys.length) :
    Calls Try.prog 85 #[.slice none 0 0, x, y] w (NtPost (anot m n) w) := by
  obtain ⟨a1, c1, rfl, hc1, hr1⟩ := id hx
  obtain ⟨a2, c2, rfl, hc2, hr2⟩ := id hy
  simp only [List.length_map] at hx hy hc1 hc2 ⊢
  obtain ⟨K1, hK1⟩ : ∃ K, K = xs.length := ⟨_, rfl⟩
  obtain ⟨K2, hK2⟩ : ∃ K, K = ys.length := ⟨_, rfl⟩
  rw [← hK1] at hx hc1 lx hway ⊢
  rw [← hK2] at hy hc2 ly hway ⊢
  have v1 := rx.val_lt
  have v2 := ry.val_lt
  rw [← hK1] at v1
  rw [← hK2] at v2
  obtain ⟨M, hM⟩ : ∃ M, M = K1 := ⟨_, rfl⟩
  obtain ⟨N, hN⟩ : ∃ N, N = K1 := ⟨_, rfl⟩
  have hNM : N ≤ M := by omega
  have hN1 : N ≤ K1 := by omega
  have hN2 : N ≤ K2 := by omega
  have hS : anot m n < 18446744073709551616 ^ M := by rw [hM]; exact Nat.lt_of_le_of_lt (by have := anot_fand m n; omega) v1
  by_cases h0 : M = 0
  · have e0 : anot m n = 0 := by rw [h0] at hS; simpa using hS
    have CN : Hid (∀ W : World, Calls Try.prog 98 #[.slice none 0 0] W (NormPost none 0 0 W)) := Lib.hid (fun W => norm_any [] none 0 W.heap.size W (Sl.nil _ _) (by simp) (by simp))
    rw [e0]
    obtain rfl : K1 = M := hM.symm
    obtain rfl : K1 = N := hN.symm
    obtain rfl : K1 = 0 := h0
    clear hx hy rx ry v1 v2 hS hr1 hr2 e0 hK1 hK2
    have cpz := fun (W : World) (ap : Option Addr) (cc : Nat) => run_copy_none (P := Try.prog) W 87 87 3 144 none ap 0 0 0 cc Try.underlying87 (by kernel_rfl) rfl
    by_cases hcx : c1 = 0
    all_goals
      go_enter Try.func85, Try.ntmps85
      go_wp2_with fail
      refine (make_zero _).mono ?_
      rintro e w' ⟨rfl, rfl⟩
      go_wp2_with fail
      go_rounds 1
      go_region_held3 (fun _ => True) (trivial) (fail)
      go_wp2_with fail
      refine (CN.out _).mono ?_
      rintro e w' ⟨rfl, rfl⟩
      go_wp2_with fail
      go_ret
      exact ⟨_, rfl, ⟨[], rep_zero, Sl.nil _ _⟩, (Below.refl _ _).drew⟩
  · have hz1 : 0 < M := by omega
    have ROUND : Hid (∀ k, k < N → ∃ (b1 o1 b2 o2 u v : Nat), a1 = some ⟨b1, o1, none⟩ ∧ a2 = some ⟨b2, o2, none⟩ ∧ b1 < w.heap.size ∧ b2 < w.heap.size ∧ u < 18446744073709551616 ∧ v < 18446744073709551616 ∧
        anot m n / 18446744073709551616 ^ k % 18446744073709551616 = anot u v ∧ ∀ wr, Up (some w.heap.size) w wr → wr.cell? ⟨b1, o1 + k, none⟩ = some (.int .u64 (u : Int)) ∧ wr.cell? ⟨b2, o2 + k, none⟩ = some (.int .u64 (v : Int))) := Lib.hid (by
      intro k hk
      obtain ⟨b1, o1, rfl, hb1, -, q1⟩ := hx.word k (by omega)
      obtain ⟨b2, o2, rfl, hb2, -, q2⟩ := hy.word k (by omega)
      refine ⟨b1, o1, b2, o2, xs.getD k 0, ys.getD k 0, rfl, rfl, hb1, hb2, getD_lt rx.lt k (by omega), getD_lt ry.lt k (by omega), ?_, fun wr hu => ?_⟩
      · rw [(bitw_anot).word m n k, ← rep_word rx k, ← rep_word ry k]
      · obtain ⟨_, _, h1, _, -, r1⟩ := (hx.up hu (Nat.le_refl _) (Nat.le_refl _)).word k (by omega)
        injection h1 with h1; injection h1 with h1 h2
        subst h1; subst h2
        obtain ⟨_, _, h1, _, -, r2⟩ := (hy.up hu (Nat.le_refl _) (Nat.le_refl _)).word k (by omega)
        injection h1 with h1; injection h1 with h1 h2
        subst h1; subst h2
        exact ⟨r1, r2⟩)
    have STEP : Hid (∀ c k wr, k < N → M ≤ c → Blk wr w.heap.size 144 (splice (zs (.int .u64 0) c) 0 ((dgs 18446744073709551616 k (anot m n)).map wv)) → (∃ v, wr.cell? ⟨w.heap.size, k, none⟩ = some v) ∧ wr.frozen? ⟨w.heap.size, k, none⟩ = false ∧
        Hid (∀ d : Nat, anot m n / 18446744073709551616 ^ k % 18446744073709551616 = d → Blk (wr.setCell ⟨w.heap.size, k, none⟩ (.int .u64 (d : Int))) w.heap.size 144 (splice (zs (.int .u64 0) c) 0 ((dgs 18446744073709551616 (k + 1) (anot m n)).map wv)))) := Lib.hid (by
      intro c k wr hk hc hb
      have hl : (splice (zs (.int .u64 0) c) 0 ((dgs 18446744073709551616 k (anot m n)).map wv)).length = c := by rw [length_splice _ _ _ (by simp [dgs_length, zs_length]; omega), zs_length]
      refine ⟨⟨_, hb.cell k (by rw [hl]; omega)⟩, hb.free k, Lib.hid ?_⟩
      rintro d rfl
      have h := hb.set k (wv (anot m n / 18446744073709551616 ^ k % 18446744073709551616))
      have e := splice_set (zs (.int .u64 0) c) 0 k ((dgs 18446744073709551616 k (anot m n)).map wv) (wv (anot m n / 18446744073709551616 ^ k % 18446744073709551616)) (by simp [dgs_length]) (by rw [zs_length]; omega)
      rw [Nat.zero_add] at e
      rw [e] at h
      rw [dgs_snoc, List.map_append]
      exact h)
    have FIN : Hid (∀ (c : Nat) (w1 w2 : World), Below w.heap.size w w1 → Up (some w.heap.size) w1 w2 → w.heap.size < w1.heap.size → M ≤ c → Blk w2 w.heap.size 144 (splice (zs (.int .u64 0) c) 0 ((dgs 18446744073709551616 M (anot m n)).map wv)) →
          Calls Try.prog 98 #[.slice (some ⟨w.heap.size, 0, none⟩) M c] w2 (NtPost (anot m n) w)) := Lib.hid (by
        intro c w1 w2 hb hu hlt hc hk
        refine (row_done w.heap.size c M (anot m n) _ hk hc (by omega) hS).mono ?_
        rintro e w' ⟨j, rfl, hnt, rfl⟩
        exact ⟨_, rfl, hnt, hb.trans (hu.below hb.size (fun k hk => by injection hk with hk; omega))⟩)
    have START : Hid (∀ c w1, w1 = w.alloc (.cells (zs (.int .u64 0) c).toArray 144) → Below w.heap.size w w1 ∧ w.heap.size < w1.heap.size ∧ Blk w1 w.heap.size 144 (splice (zs (.int .u64 0) c) 0 ((dgs 18446744073709551616 0 (anot m n)).map wv)) ∧ Up (some w.heap.size) w w1) := Lib.hid (by
      rintro c w1 rfl
      refine ⟨(Below.refl _ _).alloc (Nat.le_refl _) _, by simp, ?_, (Up.refl _ _).alloc _⟩
      simp only [dgs, List.map_nil, splice_nil]
      exact Blk.new _ _ _)
    have HF : Hid (∀ u v : Nat, u < 18446744073709551616 → v < 18446744073709551616 → bits .andNot .u64 (u : Int) (v : Int) = ((anot u v : Nat) : Int)) := Lib.hid bits_andNot_u64_nat
    have C1 := Lib.hid (make_any2 M w (by omega) (by omega))
    clear hx hy rx ry v1 v2 hS hr1 hr2 hK1 hK2
    obtain rfl : K1 = M := hM.symm
    obtain rfl : K1 = N := hN.symm
    have hng : K1 < K2 := by omega
    go_enter Try.func85, Try.ntmps85
    go_wp2_with fail
    refine C1.out.mono ?_
    rintro e w1 ⟨c, hc3, hc4, hc5, rfl, hw1⟩
    obtain ⟨hb1, hl1, hk1, hu1⟩ := START.out c w1 hw1
    have HK1 := Lib.hid hk1
    have HB1 := Lib.hid hb1
    have HU1 := Lib.hid hu1
    clear hw1 hk1 hb1 hu1
    go_wp2_with fail
    go_loopw [9] (fun i wr => ∃ k : Nat, k ≤ K1 ∧ i = .int .i64 k ∧ Hid (Blk wr w.heap.size 144 (splice (zs (.int .u64 0) c) 0 ((dgs 18446744073709551616 k (anot m n)).map wv))) ∧ Hid (Up (some w.heap.size) w1 wr)) (fun i _ => K1 - (intOf i).toNat)
    case atStart => exact ⟨0, Nat.zero_le _, rfl, HK1, Lib.hid (Up.refl _ _)⟩
    case round =>
      obtain ⟨k, hk, rfl, hb, hu⟩ := hrel
      by_cases hlt : k < K1
      · obtain ⟨b1, o1, b2, o2, u, v, rfl, rfl, hb1, hb2, gu, gv, hd, hcells⟩ := ROUND.out k hlt
        obtain ⟨⟨cv, p1⟩, f1, hnext⟩ := STEP.out c k wr hlt hc3 hb.out
        have hu2 : Up (some w.heap.size) w wr := HU1.out.trans hu.out
        obtain ⟨q1, q2⟩ := hcells wr hu2
        have EQ := Lib.hid (HF.out u v gu gv)
        have HN := Lib.hid (hnext.out _ hd)
        have KS : Hid (∀ q val, ((wr.drewN q).setCell ⟨w.heap.size, k, none⟩ val).cell? ⟨b1, o1 + k, none⟩ = some (.int .u64 (u : Int)) ∧ ((wr.drewN q).setCell ⟨w.heap.size, k, none⟩ val).cell? ⟨b2, o2 + k, none⟩ = some (.int .u64 (v : Int))) := Lib.hid (fun q val => hcells _ ((hu2.drewN q).set k val))
        have hne1 : ¬ w.heap.size = b1 := by omega
        have hne2 : ¬ w.heap.size = b2 := by omega
        have hne3 : ¬ b1 = w.heap.size := by omega
        have hne4 : ¬ b2 = w.heap.size := by omega
        have hi1 : (0 : Int) ≤ (k : Int) := by omega
        have hi2 : (k : Int) < (K1 : Int) := by omega
        have hi3 : (k : Int) < (K2 : Int) := by omega
        have hi4 : (k : Int) < (K1 : Int) := by omega
        clear hcells hd hu2
        go_wp2_with fail
        go_region_held3 (fun w' => w'.cell? ⟨b1, o1 + k, none⟩ = some (.int .u64 (u : Int)) ∧ w'.cell? ⟨b2, o2 + k, none⟩ = some (.int .u64 (v : Int))) (first | (refine ⟨?_, ?_⟩ <;> assumption) | exact KS.out 1 _ | (refine ⟨?_, ?_⟩ <;> go_simp)) (fail)
        go_wp2_with fail
        go_roundw
        case rel => exact ⟨k + 1, by omega, by go_num, Lib.hid (by rw [EQ.out]; exact HN.out.drewN 1), Lib.hid ((hu.out.drewN 1).set _ _)⟩
        case measure => simp [intOf]; omega
      · obtain rfl : K1 = k := by omega
        have P3 := Lib.hid (FIN.out c w1 wr.drew HB1.out (hu.out.drewN 1) hl1 hc3 (hb.out.drewN 1))
        have hg1 : (0 : Int) ≤ (K1 : Int) := by omega
        have hg3 : (K1 : Int) ≤ (c1 : Int) := by omega
        have hg4 : (K1 : Int) ≤ (c : Int) := by omega
        clear ROUND STEP START HF C1 hb hu FIN
        have cpz := fun (W : World) (dp ap : Option Addr) (dc cc : Nat) => run_copy_none (P := Try.prog) W 87 87 3 144 dp ap 0 dc 0 cc Try.underlying87 (by kernel_rfl) rfl
        by_cases hck : c = K1 <;> by_cases hcx : c1 = K1
        all_goals
          try (have hck2 : K1 = c := hck.symm; subst hck2)
          go_wp2_with fail
          go_region_held3 (fun _ => True) (trivial) (fail)
          go_wp2_with fail
          refine P3.out.mono ?_
          rintro e w4 ⟨v, rfl, h1, h2⟩
          have H1 := Lib.hid h1
          have H2 := Lib.hid h2
          clear h1 h2
          go_wp2_with fail
          go_ret
          exact ⟨_, rfl, H1.out, H2.out⟩

theorem natAndNot_any (m n : Nat) (x y : Value) (w : World) (hx : Nt w w.heap.size x m) (hy : Nt w w.heap.size y n) (hm : m < lim) (hn : n < lim) :
    Calls Try.prog 85 #[.slice none 0 0, x, y] w (NtPost (anot m n) w) := by
  obtain ⟨xs, rx, sx⟩ := hx
  obtain ⟨ys, ry, sy⟩ := hy
  have lx := nt_len rx hm
  have ly := nt_len ry hn
  rcases Nat.lt_or_ge xs.length ys.length with h | h
  · exact natAndNot_gt xs ys m n x y w rx ry sx sy lx ly h
  · exact natAndNot_le xs ys m n x y w rx ry sx sy lx ly h
end Go.Proofs.Ythnmkbdeoahiaaa

namespace Go.Proofs.Ythnmkbdeoahiaaa
open Go.RowKit Dig
set_option linter.unusedVariables false
set_option linter.unusedSimpArgs false
set_option maxRecDepth 100000

set_option maxHeartbeats 1600000 in
theorem natOr_le (xs ys : List Nat) (m n : Nat) (x y : Value) (w : World) (rx : Rep 18446744073709551616 xs m) (ry : Rep 18446744073709551616 ys n) (hx : Sl w w.heap.size x (xs.map wv)) (hy : Sl w w.heap.size y (ys.map wv)) (lx : xs.length ≤ 1024) (ly : ys.length ≤ 1024) (hway : ys.length ≤ xs.length) :
    Calls Try.prog 83 #[.slice none 0 0, x, y] w (NtPost (forr m n) w) := by
  obtain ⟨a1, c1, rfl, hc1, hr1⟩ := id hx
  obtain ⟨a2, c2, rfl, hc2, hr2⟩ := id hy
  simp only [List.length_map] at hx hy hc1 hc2 ⊢
  obtain ⟨K1, hK1⟩ : ∃ K, K = xs.length := ⟨_, rfl⟩
  obtain ⟨K2, hK2⟩ : ∃ K, K = ys.length := ⟨_, rfl⟩
  rw [← hK1] at hx hc1 lx hway ⊢
  rw [← hK2] at hy hc2 ly hway ⊢
  have v1 := rx.val_lt
  have v2 := ry.val_lt
  rw [← hK1] at v1
  rw [← hK2] at v2
  obtain ⟨M, hM⟩ : ∃ M, M = K1 := ⟨_, rfl⟩
  obtain ⟨N, hN⟩ : ∃ N, N = K2 := ⟨_, rfl⟩
  have hNM : N ≤ M := by omega
  have hN1 : N ≤ K1 := by omega
  have hN2 : N ≤ K2 := by omega
  have hS : forr m n < 18446744073709551616 ^ M := by rw [hM]; exact (bitw_or).lt_words v1 (Nat.lt_of_lt_of_le v2 (Nat.pow_le_pow_right (by omega) (by omega)))
  by_cases h0 : M = 0
  · have e0 : forr m n = 0 := by rw [h0] at hS; simpa using hS
    have CN : Hid (∀ W : World, Calls Try.prog 98 #[.slice none 0 0] W (NormPost none 0 0 W)) := Lib.hid (fun W => norm_any [] none 0 W.heap.size W (Sl.nil _ _) (by simp) (by simp))
    rw [e0]
    obtain rfl : K1 = M := hM.symm
    obtain rfl : K2 = N := hN.symm
    obtain rfl : K1 = 0 := h0
    obtain rfl : K2 = 0 := by omega
    clear hx hy rx ry v1 v2 hS hr1 hr2 e0 hK1 hK2
    have cpz := fun (W : World) (ap : Option Addr) (cc : Nat) => run_copy_none (P := Try.prog) W 87 87 3 144 none ap 0 0 0 cc Try.underlying87 (by kernel_rfl) rfl
    by_cases hcx : c1 = 0
    all_goals
      go_enter Try.func83, Try.ntmps83
      go_wp2_with fail
      refine (make_zero _).mono ?_
      rintro e w' ⟨rfl, rfl⟩
      go_wp2_with fail
      go_rounds 1
      go_region_held3 (fun _ => True) (trivial) (fail)
      go_wp2_with fail
      refine (CN.out _).mono ?_
      rintro e w' ⟨rfl, rfl⟩
      go_wp2_with fail
      go_ret
      exact ⟨_, rfl, ⟨[], rep_zero, Sl.nil _ _⟩, (Below.refl _ _).drew⟩
  · have hz1 : 0 < M := by omega
    have ROUND : Hid (∀ k, k < N → ∃ (b1 o1 b2 o2 u v : Nat), a1 = some ⟨b1, o1, none⟩ ∧ a2 = some ⟨b2, o2, none⟩ ∧ b1 < w.heap.size ∧ b2 < w.heap.size ∧ u < 18446744073709551616 ∧ v < 18446744073709551616 ∧
        forr m n / 18446744073709551616 ^ k % 18446744073709551616 = forr u v ∧ ∀ wr, Up (some w.heap.size) w wr → wr.cell? ⟨b1, o1 + k, none⟩ = some (.int .u64 (u : Int)) ∧ wr.cell? ⟨b2, o2 + k, none⟩ = some (.int .u64 (v : Int))) := Lib.hid (by
      intro k hk
      obtain ⟨b1, o1, rfl, hb1, -, q1⟩ := hx.word k (by omega)
      obtain ⟨b2, o2, rfl, hb2, -, q2⟩ := hy.word k (by omega)
      refine ⟨b1, o1, b2, o2, xs.getD k 0, ys.getD k 0, rfl, rfl, hb1, hb2, getD_lt rx.lt k (by omega), getD_lt ry.lt k (by omega), ?_, fun wr hu => ?_⟩
      · rw [(bitw_or).word m n k, ← rep_word rx k, ← rep_word ry k]
      · obtain ⟨_, _, h1, _, -, r1⟩ := (hx.up hu (Nat.le_refl _) (Nat.le_refl _)).word k (by omega)
        injection h1 with h1; injection h1 with h1 h2
        subst h1; subst h2
        obtain ⟨_, _, h1, _, -, r2⟩ := (hy.up hu (Nat.le_refl _) (Nat.le_refl _)).word k (by omega)
        injection h1 with h1; injection h1 with h1 h2
        subst h1; subst h2
        exact ⟨r1, r2⟩)
    have STEP : Hid (∀ c k wr, k < N → M ≤ c → Blk wr w.heap.size 144 (splice (zs (.int .u64 0) c) 0 ((dgs 18446744073709551616 k (forr m n)).map wv)) → (∃ v, wr.cell? ⟨w.heap.size, k, none⟩ = some v) ∧ wr.frozen? ⟨w.heap.size, k, none⟩ = false ∧
        Hid (∀ d : Nat, forr m n / 18446744073709551616 ^ k % 18446744073709551616 = d → Blk (wr.setCell ⟨w.heap.size, k, none⟩ (.int .u64 (d : Int))) w.heap.size 144 (splice (zs (.int .u64 0) c) 0 ((dgs 18446744073709551616 (k + 1) (forr m n)).map wv)))) := Lib.hid (by
      intro c k wr hk hc hb
      have hl : (splice (zs (.int .u64 0) c) 0 ((dgs 18446744073709551616 k (forr m n)).map wv)).length = c := by rw [length_splice _ _ _ (by simp [dgs_length, zs_length]; omega), zs_length]
      refine ⟨⟨_, hb.cell k (by rw [hl]; omega)⟩, hb.free k, Lib.hid ?_⟩
      rintro d rfl
      have h := hb.set k (wv (forr m n / 18446744073709551616 ^ k % 18446744073709551616))
      have e := splice_set (zs (.int .u64 0) c) 0 k ((dgs 18446744073709551616 k (forr m n)).map wv) (wv (forr m n / 18446744073709551616 ^ k % 18446744073709551616)) (by simp [dgs_length]) (by rw [zs_length]; omega)
      rw [Nat.zero_add] at e
      rw [e] at h
      rw [dgs_snoc, List.map_append]
      exact h)
    have FIN : Hid (∀ (c : Nat) (w1 w2 : World), Below w.heap.size w w1 → Up (some w.heap.size) w1 w2 → w.heap.size < w1.heap.size → M ≤ c → Blk w2 w.heap.size 144 (splice (zs (.int .u64 0) c) 0 ((dgs 18446744073709551616 M (forr m n)).map wv)) →
          Calls Try.prog 98 #[.slice (some ⟨w.heap.size, 0, none⟩) M c] w2 (NtPost (forr m n) w)) := Lib.hid (by
        intro c w1 w2 hb hu hlt hc hk
        refine (row_done w.heap.size c M (forr m n) _ hk hc (by omega) hS).mono ?_
        rintro e w' ⟨j, rfl, hnt, rfl⟩
        exact ⟨_, rfl, hnt, hb.trans (hu.below hb.size (fun k hk => by injection hk with hk; omega))⟩)
    have START : Hid (∀ c w1, w1 = w.alloc (.cells (zs (.int .u64 0) c).toArray 144) → Below w.heap.size w w1 ∧ w.heap.size < w1.heap.size ∧ Blk w1 w.heap.size 144 (splice (zs (.int .u64 0) c) 0 ((dgs 18446744073709551616 0 (forr m n)).map wv)) ∧ Up (some w.heap.size) w w1) := Lib.hid (by
      rintro c w1 rfl
      refine ⟨(Below.refl _ _).alloc (Nat.le_refl _) _, by simp, ?_, (Up.refl _ _).alloc _⟩
      simp only [dgs, List.map_nil, splice_nil]
      exact Blk.new _ _ _)
    have HF : Hid (∀ u v : Nat, u < 18446744073709551616 → v < 18446744073709551616 → bits .or .u64 (u : Int) (v : Int) = ((forr u v : Nat) : Int)) := Lib.hid word_or
    have C1 := Lib.hid (make_any2 M w (by omega) (by omega))
    obtain ⟨bl, ol, rfl, hbl, -, _⟩ := hx.word 0 (by omega)
    have hSN : forr m n / 18446744073709551616 ^ N = m / 18446744073709551616 ^ N := by
      rw [(bitw_or).high m n N, Nat.div_eq_of_lt (show n < 18446744073709551616 ^ N by rw [hN]; assumption), forr_zero]
    have CP : Hid (∀ c, M ≤ c → splice (splice (zs (.int .u64 0) c) 0 ((dgs 18446744073709551616 N (forr m n)).map wv)) N ((xs.drop N).map wv) = splice (zs (.int .u64 0) c) 0 ((dgs 18446744073709551616 M (forr m n)).map wv)) := Lib.hid (fun c hc => rest_words rx N M c hNM (by omega) hc hSN)
    have NN : Hid (((xs.drop N).map wv).length = Nat.min (M - N) (M - N)) := Lib.hid (by simp; omega)
    have FF : Hid (∀ c, M ≤ c → N + ((xs.drop N).map wv).length ≤ (splice (zs (.int .u64 0) c) 0 ((dgs 18446744073709551616 N (forr m n)).map wv)).length) := Lib.hid (by
      intro c hc
      rw [length_splice _ _ _ (by simp [dgs_length, zs_length]; omega), zs_length]
      simp; omega)
    have OO := Lib.hid (oneCell_wv (xs.drop N))
    have SRC : Hid (N < M → ∀ W, Up (some w.heap.size) w W → ∀ j v, ((xs.drop N).map wv)[j]? = some v → W.cell? ((⟨bl, ol + N, none⟩ : Addr).add j) = some v) := Lib.hid (fun h W hu => (hx.up hu (Nat.le_refl _) (Nat.le_refl _)).cells_from N (by omega))
    have NIL : Hid (N = M → xs.drop N = []) := Lib.hid (fun h => List.drop_of_length_le (by omega))
    clear hx hy rx ry v1 v2 hS hr1 hr2 hK1 hK2
    obtain rfl : K1 = M := hM.symm
    obtain rfl : K2 = N := hN.symm
    have hng : ¬ K1 < K2 := by omega
    go_enter Try.func83, Try.ntmps83
    go_wp2_with fail
    refine C1.out.mono ?_
    rintro e w1 ⟨c, hc3, hc4, hc5, rfl, hw1⟩
    obtain ⟨hb1, hl1, hk1, hu1⟩ := START.out c w1 hw1
    have HK1 := Lib.hid hk1
    have HB1 := Lib.hid hb1
    have HU1 := Lib.hid hu1
    clear hw1 hk1 hb1 hu1
    go_wp2_with fail
    go_loopw [10] (fun i wr => ∃ k : Nat, k ≤ K2 ∧ i = .int .i64 k ∧ Hid (Blk wr w.heap.size 144 (splice (zs (.int .u64 0) c) 0 ((dgs 18446744073709551616 k (forr m n)).map wv))) ∧ Hid (Up (some w.heap.size) w1 wr)) (fun i _ => K2 - (intOf i).toNat)
    case atStart => exact ⟨0, Nat.zero_le _, rfl, HK1, Lib.hid (Up.refl _ _)⟩
    case round =>
      obtain ⟨k, hk, rfl, hb, hu⟩ := hrel
      by_cases hlt : k < K2
      · obtain ⟨b1, o1, b2, o2, u, v, hq1, rfl, hb1, hb2, gu, gv, hd, hcells⟩ := ROUND.out k hlt
        injection hq1 with hq1; injection hq1 with hq1 hq2
        obtain rfl : b1 = bl := hq1.symm
        obtain rfl : o1 = ol := hq2.symm
        obtain ⟨⟨cv, p1⟩, f1, hnext⟩ := STEP.out c k wr hlt hc3 hb.out
        have hu2 : Up (some w.heap.size) w wr := HU1.out.trans hu.out
        obtain ⟨q1, q2⟩ := hcells wr hu2
        have EQ := Lib.hid (HF.out u v gu gv)
        have HN := Lib.hid (hnext.out _ hd)
        have KS : Hid (∀ q val, ((wr.drewN q).setCell ⟨w.heap.size, k, none⟩ val).cell? ⟨b1, o1 + k, none⟩ = some (.int .u64 (u : Int)) ∧ ((wr.drewN q).setCell ⟨w.heap.size, k, none⟩ val).cell? ⟨b2, o2 + k, none⟩ = some (.int .u64 (v : Int))) := Lib.hid (fun q val => hcells _ ((hu2.drewN q).set k val))
        have hne1 : ¬ w.heap.size = b1 := by omega
        have hne2 : ¬ w.heap.size = b2 := by omega
        have hne3 : ¬ b1 = w.heap.size := by omega
        have hne4 : ¬ b2 = w.heap.size := by omega
        have hi1 : (0 : Int) ≤ (k : Int) := by omega
        have hi2 : (k : Int) < (K1 : Int) := by omega
        have hi3 : (k : Int) < (K2 : Int) := by omega
        have hi4 : (k : Int) < (K1 : Int) := by omega
        clear hcells hd hu2
        go_wp2_with fail
        go_region_held3 (fun w' => w'.cell? ⟨b1, o1 + k, none⟩ = some (.int .u64 (u : Int)) ∧ w'.cell? ⟨b2, o2 + k, none⟩ = some (.int .u64 (v : Int))) (first | (refine ⟨?_, ?_⟩ <;> assumption) | exact KS.out 1 _ | (refine ⟨?_, ?_⟩ <;> go_simp)) (fail)
        go_wp2_with fail
        go_roundw
        case rel => exact ⟨k + 1, by omega, by go_num, Lib.hid (by rw [EQ.out]; exact HN.out.drewN 1), Lib.hid ((hu.out.drewN 1).set _ _)⟩
        case measure => simp [intOf]; omega
      · obtain rfl : K2 = k := by omega
        have HBR := Lib.hid hb.out
        have HUR := Lib.hid (HU1.out.trans hu.out)
        have HUO := Lib.hid hu.out
        have ff := Lib.hid (FF.out c hc3)
        have hg1 : (0 : Int) ≤ (K2 : Int) := by omega
        have hg2 : (K2 : Int) ≤ (K1 : Int) := by omega
        have hg3 : (K1 : Int) ≤ (c1 : Int) := by omega
        have hg4 : (K1 : Int) ≤ (c : Int) := by omega
        clear ROUND STEP START HF C1 FF hb hu
        by_cases hnm : K2 = K1
        · clear NIL SRC
          obtain rfl : K2 = K1 := hnm
          have P3 := Lib.hid (FIN.out c w1 wr.drew HB1.out (HUO.out.drewN 1) hl1 hc3 (HBR.out.drewN 1))
          have cpz := fun (W : World) (dp ap : Option Addr) (dc cc : Nat) => run_copy_none (P := Try.prog) W 87 87 3 144 dp ap 0 dc 0 cc Try.underlying87 (by kernel_rfl) rfl
          by_cases hck : c = K2 <;> by_cases hcx : c1 = K2
          all_goals
            try (have hck2 : K2 = c := hck.symm; subst hck2)
            go_wp2_with fail
            go_region_held3 (fun _ => True) (trivial) (fail)
            go_wp2_with fail
            refine P3.out.mono ?_
            rintro e w4 ⟨v, rfl, h1, h2⟩
            have H1 := Lib.hid h1
            have H2 := Lib.hid h2
            clear h1 h2
            go_wp2_with fail
            go_ret
            exact ⟨_, rfl, H1.out, H2.out⟩
        · have hlt2 : K2 < K1 := by omega
          have HP : Hid (∀ q, 0 < ((xs.drop K2).map wv).length → ∀ j v, ((xs.drop K2).map wv)[j]? = some v → (wr.drewN q).cell? ((⟨bl, ol + K2, none⟩ : Addr).add j) = some v) := Lib.hid (fun q _ => SRC.out hlt2 _ (HUR.out.drewN q))
          have hck : ¬ c = K2 := by omega
          have hcx : ¬ c1 = K2 := by omega
          clear NIL SRC
          go_wp2_with fail
          go_region_held3 (fun _ => True) (trivial) ((refine step_copy_up (by rfl) (.tmp 45) (.tmp 49) 87 87 (by rfl) 144 Try.underlying87 (by kernel_rfl) _ _ _ _ _ _ (by rfl) (by rfl) w.heap.size K2 _ 144 (by exact HBR.out) ((xs.drop K2).map wv) NN.out (fun h => ⟨by simp, _, rfl, HP.out _ h⟩) ff.out OO.out w1 (by exact (HUO.out.drewN _)) ?_; intro w2 hk2 hu2))
          rw [CP.out c hc3] at hk2
          have P3 := Lib.hid (FIN.out c w1 w2 HB1.out hu2.out hl1 hc3 hk2.out)
          go_wp2_with fail
          refine P3.out.mono ?_
          rintro e w4 ⟨v, rfl, h1, h2⟩
          have H1 := Lib.hid h1
          have H2 := Lib.hid h2
          clear h1 h2
          go_wp2_with fail
          go_ret
          exact ⟨_, rfl, H1.out, H2.out⟩

set_option maxHeartbeats 1600000 in
theorem natOr_gt (xs ys : List Nat) (m n : Nat) (x y : Value) (w : World) (rx : Rep 18446744073709551616 xs m) (ry : Rep 18446744073709551616 ys n) (hx : Sl w w.heap.size x (xs.map wv)) (hy : Sl w w.heap.size y (ys.map wv)) (lx : xs.length ≤ 1024) (ly : ys.length ≤ 1024) (hway : xs.length < ys.length) :
    Calls Try.prog 83 #[.slice none 0 0, x, y] w (NtPost (forr m n) w) := by
  obtain ⟨a1, c1, rfl, hc1, hr1⟩ := id hx
  obtain ⟨a2, c2, rfl, hc2, hr2⟩ := id hy
  simp only [List.length_map] at hx hy hc1 hc2 ⊢
  obtain ⟨K1, hK1⟩ : ∃ K, K = xs.length := ⟨_, rfl⟩
  obtain ⟨K2, hK2⟩ : ∃ K, K = ys.length := ⟨_, rfl⟩
  rw [← hK1] at hx hc1 lx hway ⊢
  rw [← hK2] at hy hc2 ly hway ⊢
  have v1 := rx.val_lt
  have v2 := ry.val_lt
  rw [← hK1] at v1
  rw [← hK2] at v2
  obtain ⟨M, hM⟩ : ∃ M, M = K2 := ⟨_, rfl⟩
  obtain ⟨N, hN⟩ : ∃ N, N = K1 := ⟨_, rfl⟩
  have hNM : N ≤ M := by omega
  have hN1 : N ≤ K1 := by omega
  have hN2 : N ≤ K2 := by omega
  have hS : forr m n < 18446744073709551616 ^ M := by rw [hM]; exact (bitw_or).lt_words (Nat.lt_of_lt_of_le v1 (Nat.pow_le_pow_right (by omega) (by omega))) v2
  by_cases h0 : M = 0
  · have e0 : forr m n = 0 := by rw [h0] at hS; simpa using hS
    have CN : Hid (∀ W : World, Calls Try.prog 98 #[.slice none 0 0] W (NormPost none 0 0 W)) := Lib.hid (fun W => norm_any [] none 0 W.heap.size W (Sl.nil _ _) (by simp) (by simp))
    rw [e0]
    obtain rfl : K2 = M := hM.symm
    obtain rfl : K1 = N := hN.symm
    obtain rfl : K2 = 0 := h0
    obtain rfl : K1 = 0 := by omega
    clear hx hy rx ry v1 v2 hS hr1 hr2 e0 hK1 hK2
    have cpz := fun (W : World) (ap : Option Addr) (cc : Nat) => run_copy_none (P := Try.prog) W 87 87 3 144 none ap 0 0 0 cc Try.underlying87 (by kernel_rfl) rfl
    by_cases hcx : c2 = 0
    all_goals
      go_enter Try.func83, Try.ntmps83
      go_wp2_with fail
      refine (make_zero _).mono ?_
      rintro e w' ⟨rfl, rfl⟩
      go_wp2_with fail
      go_rounds 1
      go_region_held3 (fun _ => True) (trivial) (fail)
      go_wp2_with fail
      refine (CN.out _).mono ?_
      rintro e w' ⟨rfl, rfl⟩
      go_wp2_with fail
      go_ret
      exact ⟨_, rfl, ⟨[], rep_zero, Sl.nil _ _⟩, (Below.refl _ _).drew⟩
  · have hz1 : 0 < M := by omega
    have ROUND : Hid (∀ k, k < N → ∃ (b1 o1 b2 o2 u v : Nat), a1 = some ⟨b1, o1, none⟩ ∧ a2 = some ⟨b2, o2, none⟩ ∧ b1 < w.heap.size ∧ b2 < w.heap.size ∧ u < 18446744073709551616 ∧ v < 18446744073709551616 ∧
        forr m n / 18446744073709551616 ^ k % 18446744073709551616 = forr u v ∧ ∀ wr, Up (some w.heap.size) w wr → wr.cell? ⟨b1, o1 + k, none⟩ = some (.int .u64 (u : Int)) ∧ wr.cell? ⟨b2, o2 + k, none⟩ = some (.int .u64 (v : Int))) := Lib.hid (by
      intro k hk
      obtain ⟨b1, o1, rfl, hb1, -, q1⟩ := hx.word k (by omega)
      obtain ⟨b2, o2, rfl, hb2, -, q2⟩ := hy.word k (by omega)
      refine ⟨b1, o1, b2, o2, xs.getD k 0, ys.getD k 0, rfl, rfl, hb1, hb2, getD_lt rx.lt k (by omega), getD_lt ry.lt k (by omega), ?_, fun wr hu => ?_⟩
      · rw [(bitw_or).word m n k, ← rep_word rx k, ← rep_word ry k]
      · obtain ⟨_, _, h1, _, -, r1⟩ := (hx.up hu (Nat.le_refl _) (Nat.le_refl _)).word k (by omega)
        injection h1 with h1; injection h1 with h1 h2
        subst h1; subst h2
        obtain ⟨_, _, h1, _, -, r2⟩ := (hy.up hu (Nat.le_refl _) (Nat.le_refl _)).word k (by omega)
        injection h1 with h1; injection h1 with h1 h2
        subst h1; subst h2
        exact ⟨r1, r2⟩)
    have STEP : Hid (∀ c k wr, k < N → M ≤ c → Blk wr w.heap.size 144 (splice (zs (.int .u64 0) c) 0 ((dgs 18446744073709551616 k (forr m n)).map wv)) → (∃ v, wr.cell? ⟨w.heap.size, k, none⟩ = some v) ∧ wr.frozen? ⟨w.heap.size, k, none⟩ = false ∧
        Hid (∀ d : Nat, forr m n / 18446744073709551616 ^ k % 18446744073709551616 = d → Blk (wr.setCell ⟨w.heap.size, k, none⟩ (.int .u64 (d : Int))) w.heap.size 144 (splice (zs (.int .u64 0) c) 0 ((dgs 18446744073709551616 (k + 1) (forr m n)).map wv)))) := Lib.hid (by
      intro c k wr hk hc hb
      have hl : (splice (zs (.int .u64 0) c) 0 ((dgs 18446744073709551616 k (forr m n)).map wv)).length = c := by rw [length_splice _ _ _ (by simp [dgs_length, zs_length]; omega), zs_length]
      refine ⟨⟨_, hb.cell k (by rw [hl]; omega)⟩, hb.free k, Lib.hid ?_⟩
      rintro d rfl
      have h := hb.set k (wv (forr m n / 18446744073709551616 ^ k % 18446744073709551616))
      have e := splice_set (zs (.int .u64 0) c) 0 k ((dgs 18446744073709551616 k (forr m n)).map wv) (wv (forr m n / 18446744073709551616 ^ k % 18446744073709551616)) (by simp [dgs_length]) (by rw [zs_length]; omega)
      rw [Nat.zero_add] at e
      rw [e] at h
      rw [dgs_snoc, List.map_append]
      exact h)
    have FIN : Hid (∀ (c : Nat) (w1 w2 : World), Below w.heap.size w w1 → Up (some w.heap.size) w1 w2 → w.heap.size < w1.heap.size → M ≤ c → Blk w2 w.heap.size 144 (splice (zs (.int .u64 0) c) 0 ((dgs 18446744073709551616 M (forr m n)).map wv)) →
          Calls Try.prog 98 #[.slice (some ⟨w.heap.size, 0, none⟩) M c] w2 (NtPost (forr m n) w)) := Lib.hid (by
        intro c w1 w2 hb hu hlt hc hk
        refine (row_done w.heap.size c M (forr m n) _ hk hc (by omega) hS).mono ?_
        rintro e w' ⟨j, rfl, hnt, rfl⟩
        exact ⟨_, rfl, hnt, hb.trans (hu.below hb.size (fun k hk => by injection hk with hk; omega))⟩)
    have START : Hid (∀ c w1, w1 = w.alloc (.cells (zs (.int .u64 0) c).toArray 144) → Below w.heap.size w w1 ∧ w.heap.size < w1.heap.size ∧ Blk w1 w.heap.size 144 (splice (zs (.int .u64 0) c) 0 ((dgs 18446744073709551616 0 (forr m n)).map wv)) ∧ Up (some w.heap.size) w w1) := Lib.hid (by
      rintro c w1 rfl
      refine ⟨(Below.refl _ _).alloc (Nat.le_refl _) _, by simp, ?_, (Up.refl _ _).alloc _⟩
      simp only [dgs, List.map_nil, splice_nil]
      exact Blk.new _ _ _)
    have HF : Hid (∀ u v : Nat, u < 18446744073709551616 → v < 18446744073709551616 → bits .or .u64 (u : Int) (v : Int) = ((forr u v : Nat) : Int)) := Lib.hid word_or
    have C1 := Lib.hid (make_any2 M w (by omega) (by omega))
    obtain ⟨bl, ol, rfl, hbl, -, _⟩ := hy.word 0 (by omega)
    have hSN : forr m n / 18446744073709551616 ^ N = n / 18446744073709551616 ^ N := by
      rw [(bitw_or).high m n N, Nat.div_eq_of_lt (show m < 18446744073709551616 ^ N by rw [hN]; assumption), zero_forr]
    have CP : Hid (∀ c, M ≤ c → splice (splice (zs (.int .u64 0) c) 0 ((dgs 18446744073709551616 N (forr m n)).map wv)) N ((ys.drop N).map wv) = splice (zs (.int .u64 0) c) 0 ((dgs 18446744073709551616 M (forr m n)).map wv)) := Lib.hid (fun c hc => rest_words ry N M c hNM (by omega) hc hSN)
    have NN : Hid (((ys.drop N).map wv).length = Nat.min (M - N) (M - N)) := Lib.hid (by simp; omega)
    have FF : Hid (∀ c, M ≤ c → N + ((ys.drop N).map wv).length ≤ (splice (zs (.int .u64 0) c) 0 ((dgs 18446744073709551616 N (forr m n)).map wv)).length) := Lib.hid (by
      intro c hc
      rw [length_splice _ _ _ (by simp [dgs_length, zs_length]; omega), zs_length]
      simp; omega)
    have OO := Lib.hid (oneCell_wv (ys.drop N))
    have SRC : Hid (N < M → ∀ W, Up (some w.heap.size) w W → ∀ j v, ((ys.drop N).map wv)[j]? = some v → W.cell? ((⟨bl, ol + N, none⟩ : Addr).add j) = some v) := Lib.hid (fun h W hu => (hy.up hu (Nat.le_refl _) (Nat.le_refl _)).cells_from N (by omega))
    have NIL : Hid (N = M → ys.drop N = []) := Lib.hid (fun h => List.drop_of_length_le (by omega))
    clear hx hy rx ry v1 v2 hS hr1 hr2 hK1 hK2
    obtain rfl : K2 = M := hM.symm
    obtain rfl : K1 = N := hN.symm
    have hng : K1 < K2 := by omega
    go_enter Try.func83, Try.ntmps83
    go_wp2_with fail
    refine C1.out.mono ?_
    rintro e w1 ⟨c, hc3, hc4, hc5, rfl, hw1⟩
    obtain ⟨hb1, hl1, hk1, hu1⟩ := START.out c w1 hw1
    have HK1 := Lib.hid hk1
    have HB1 := Lib.hid hb1
    have HU1 := Lib.hid hu1
    clear hw1 hk1 hb1 hu1
    go_wp2_with fail
    go_loopw [10] (fun i wr => ∃ k : Nat, k ≤ K1 ∧ i = .int .i64 k ∧ Hid (Blk wr w.heap.size 144 (splice (zs (.int .u64 0) c) 0 ((dgs 18446744073709551616 k (forr m n)).map wv))) ∧ Hid (Up (some w.heap.size) w1 wr)) (fun i _ => K1 - (intOf i).toNat)
    case atStart => exact ⟨0, Nat.zero_le _, rfl, HK1, Lib.hid (Up.refl _ _)⟩
    case round =>
      obtain ⟨k, hk, rfl, hb, hu⟩ := hrel
      by_cases hlt : k < K1
      · obtain ⟨b1, o1, b2, o2, u, v, rfl, hq1, hb1, hb2, gu, gv, hd, hcells⟩ := ROUND.out k hlt
        injection hq1 with hq1; injection hq1 with hq1 hq2
        obtain rfl : b2 = bl := hq1.symm
        obtain rfl : o2 = ol := hq2.symm
        obtain ⟨⟨cv, p1⟩, f1, hnext⟩ := STEP.out c k wr hlt hc3 hb.out
        have hu2 : Up (some w.heap.size) w wr := HU1.out.trans hu.out
        obtain ⟨q1, q2⟩ := hcells wr hu2
        have EQ := Lib.hid (HF.out u v gu gv)
        have HN := Lib.hid (hnext.out _ hd)
        have KS : Hid (∀ q val, ((wr.drewN q).setCell ⟨w.heap.size, k, none⟩ val).cell? ⟨b1, o1 + k, none⟩ = some (.int .u64 (u : Int)) ∧ ((wr.drewN q).setCell ⟨w.heap.size, k, none⟩ val).cell? ⟨b2, o2 + k, none⟩ = some (.int .u64 (v : Int))) := Lib.hid (fun q val => hcells _ ((hu2.drewN q).set k val))
        have hne1 : ¬ w.heap.size = b1 := by omega
        have hne2 : ¬ w.heap.size = b2 := by omega
        have hne3 : ¬ b1 = w.heap.size := by omega
        have hne4 : ¬ b2 = w.heap.size := by omega
        have hi1 : (0 : Int) ≤ (k : Int) := by omega
        have hi2 : (k : Int) < (K1 : Int) := by omega
        have hi3 : (k : Int) < (K2 : Int) := by omega
        have hi4 : (k : Int) < (K2 : Int) := by omega
        clear hcells hd hu2
        go_wp2_with fail
        go_region_held3 (fun w' => w'.cell? ⟨b1, o1 + k, none⟩ = some (.int .u64 (u : Int)) ∧ w'.cell? ⟨b2, o2 + k, none⟩ = some (.int .u64 (v : Int))) (first | (refine ⟨?_, ?_⟩ <;> assumption) | exact KS.out 1 _ | (refine ⟨?_, ?_⟩ <;> go_simp)) (fail)
        go_wp2_with fail
        go_roundw
        case rel => exact ⟨k + 1, by omega, by go_num, Lib.hid (by rw [EQ.out]; exact HN.out.drewN 1), Lib.hid ((hu.out.drewN 1).set _ _)⟩
        case measure => simp [intOf]; omega
      · obtain rfl : K1 = k := by omega
        have HBR := Lib.hid hb.out
        have HUR := Lib.hid (HU1.out.trans hu.out)
        have HUO := Lib.hid hu.out
        have ff := Lib.hid (FF.out c hc3)
        have hg1 : (0 : Int) ≤ (K1 : Int) := by omega
        have hg2 : (K1 : Int) ≤ (K2 : Int) := by omega
        have hg3 : (K2 : Int) ≤ (c2 : Int) := by omega
        have hg4 : (K2 : Int) ≤ (c : Int) := by omega
        clear ROUND STEP START HF C1 FF hb hu
        by_cases hnm : K1 = K2
        · clear NIL SRC
          obtain rfl : K1 = K2 := hnm
          have P3 := Lib.hid (FIN.out c w1 wr.drew HB1.out (HUO.out.drewN 1) hl1 hc3 (HBR.out.drewN 1))
          have cpz := fun (W : World) (dp ap : Option Addr) (dc cc : Nat) => run_copy_none (P := Try.prog) W 87 87 3 144 dp ap 0 dc 0 cc Try.underlying87 (by kernel_rfl) rfl
          by_cases hck : c = K1 <;> by_cases hcx : c2 = K1
          all_goals
            try (have hck2 : K1 = c := hck.symm; subst hck2)
            go_wp2_with fail
            go_region_held3 (fun _ => True) (trivial) (fail)
            go_wp2_with fail
            refine P3.out.mono ?_
            rintro e w4 ⟨v, rfl, h1, h2⟩
            have H1 := Lib.hid h1
            have H2 := Lib.hid h2
            clear h1 h2
            go_wp2_with fail
            go_ret
            exact ⟨_, rfl, H1.out, H2.out⟩
        · have hlt2 : K1 < K2 := by omega
          have HP : Hid (∀ q, 0 < ((ys.drop K1).map wv).length → ∀ j v, ((ys.drop K1).map wv)[j]? = some v → (wr.drewN q).cell? ((⟨bl, ol + K1, none⟩ : Addr).add j) = some v) := Lib.hid (fun q _ => SRC.out hlt2 _ (HUR.out.drewN q))
          have hck : ¬ c = K1 := by omega
          have hcx : ¬ c2 = K1 := by omega
          clear NIL SRC
          go_wp2_with fail
          go_region_held3 (fun _ => True) (trivial) ((refine step_copy_up (by rfl) (.tmp 45) (.tmp 49) 87 87 (by rfl) 144 Try.underlying87 (by kernel_rfl) _ _ _ _ _ _ (by rfl) (by rfl) w.heap.size K1 _ 144 (by exact HBR.out) ((ys.drop K1).map wv) NN.out (fun h => ⟨by simp, _, rfl, HP.out _ h⟩) ff.out OO.out w1 (by exact (HUO.out.drewN _)) ?_; intro w2 hk2 hu2))
          rw [CP.out c hc3] at hk2
          have P3 := Lib.hid (FIN.out c w1 w2 HB1.out hu2.out hl1 hc3 hk2.out)
          go_wp2_with fail
          refine P3.out.mono ?_
          rintro e w4 ⟨v, rfl, h1, h2⟩
          have H1 := Lib.hid h1
          have H2 := Lib.hid h2
          clear h1 h2
          go_wp2_with fail
          go_ret
          exact ⟨_, rfl, H1.out, H2.out⟩

theorem natOr_any (m n : Nat) (x y : Value) (w : World) (hx : Nt w w.heap.size x m) (hy : Nt w w.heap.size y n) (hm : m < lim) (hn : n < lim) :
    Calls Try.prog 83 #[.slice none 0 0, x, y] w (NtPost (forr m n) w) := by
  obtain ⟨xs, rx, sx⟩ := hx
  obtain ⟨ys, ry, sy⟩ := hy
  have lx := nt_len rx hm
  have ly := nt_len ry hn
  rcases Nat.lt_or_ge xs.length ys.length with h | h
  · exact natOr_gt xs ys m n x y w rx ry sx sy lx ly h
  · exact natOr_le xs ys m n x y w rx ry sx sy lx ly h
end Go.Proofs.Ythnmkbdeoahiaaa

namespace Go.Proofs.Ythnmkbdeoahiaaa
open Go.RowKit Dig
set_option linter.unusedVariables false
set_option linter.unusedSimpArgs false
set_option maxRecDepth 100000

set_option maxHeartbeats 1600000 in
theorem natXor_le (xs ys : List Nat) (m n : Nat) (x y : Value) (w : World) (rx : Rep 18446744073709551616 xs m) (ry : Rep 18446744073709551616 ys n) (hx : Sl w w.heap.size x (xs.map wv)) (hy : Sl w w.heap.size y (ys.map wv)) (lx : xs.length ≤ 1024) (ly : ys.length ≤ 1024) (hway : ys.length ≤ xs.length) :
    Calls Try.prog 87 #[.slice none 0 0, x, y] w (NtPost (fxor m n) w) := by
  obtain ⟨a1, c1, rfl, hc1, hr1⟩ := id hx
  obtain ⟨a2, c2, rfl, hc2, hr2⟩ := id hy
  simp only [List.length_map] at hx hy hc1 hc2 ⊢
  obtain ⟨K1, hK1⟩ : ∃ K, K = xs.length := ⟨_, rfl⟩
  obtain ⟨K2, hK2⟩ : ∃ K, K = ys.length := ⟨_, rfl⟩
  rw [← hK1] at hx hc1 lx hway ⊢
  rw [← hK2] at hy hc2 ly hway ⊢
  have v1 := rx.val_lt
  have v2 := ry.val_lt
  rw [← hK1] at v1
  rw [← hK2] at v2
  obtain ⟨M, hM⟩ : ∃ M, M = K1 := ⟨_, rfl⟩
  obtain ⟨N, hN⟩ : ∃ N, N = K2 := ⟨_, rfl⟩
  have hNM : N ≤ M := by omega
  have hN1 : N ≤ K1 := by omega
  have hN2 : N ≤ K2 := by omega
  have hS : fxor m n < 18446744073709551616 ^ M := by rw [hM]; exact (bitw_xor).lt_words v1 (Nat.lt_of_lt_of_le v2 (Nat.pow_le_pow_right (by omega) (by omega)))
  by_cases h0 : M = 0
  · have e0 : fxor m n = 0 := by rw [h0] at hS; simpa using hS
    have CN : Hid (∀ W : World, Calls Try.prog 98 #[.slice none 0 0] W (NormPost none 0 0 W)) := Lib.hid (fun W => norm_any [] none 0 W.heap.size W (Sl.nil _ _) (by simp) (by simp))
    rw [e0]
    obtain rfl : K1 = M := hM.symm
    obtain rfl : K2 = N := hN.symm
    obtain rfl : K1 = 0 := h0
    obtain rfl : K2 = 0 := by omega
    clear hx hy rx ry v1 v2 hS hr1 hr2 e0 hK1 hK2
    have cpz := fun (W : World) (ap : Option Addr) (cc : Nat) => run_copy_none (P := Try.prog) W 87 87 3 144 none ap 0 0 0 cc Try.underlying87 (by kernel_rfl) rfl
    by_cases hcx : c1 = 0
    all_goals
      go_enter Try.func87, Try.ntmps87
      go_wp2_with fail
      refine (make_zero _).mono ?_
      rintro e w' ⟨rfl, rfl⟩
      go_wp2_with fail
      go_rounds 1
      go_region_held3 (fun _ => True) (trivial) (fail)
      go_wp2_with fail
      refine (CN.out _).mono ?_
      rintro e w' ⟨rfl, rfl⟩
      go_wp2_with fail
      go_ret
      exact ⟨_, rfl, ⟨[], rep_zero, Sl.nil _ _⟩, (Below.refl _ _).drew⟩
  · have hz1 : 0 < M := by omega
    have ROUND : Hid (∀ k, k < N → ∃ (b1 o1 b2 o2 u v : Nat), a1 = some ⟨b1, o1, none⟩ ∧ a2 = some ⟨b2, o2, none⟩ ∧ b1 < w.heap.size ∧ b2 < w.heap.size ∧ u < 18446744073709551616 ∧ v < 18446744073709551616 ∧
        fxor m n / 18446744073709551616 ^ k % 18446744073709551616 = fxor u v ∧ ∀ wr, Up (some w.heap.size) w wr → wr.cell? ⟨b1, o1 + k, none⟩ = some (.int .u64 (u : Int)) ∧ wr.cell? ⟨b2, o2 + k, none⟩ = some (.int .u64 (v : Int))) := Lib.hid (by
      intro k hk
      obtain ⟨b1, o1, rfl, hb1, -, q1⟩ := hx.word k (by omega)
      obtain ⟨b2, o2, rfl, hb2, -, q2⟩ := hy.word k (by omega)
      refine ⟨b1, o1, b2, o2, xs.getD k 0, ys.getD k 0, rfl, rfl, hb1, hb2, getD_lt rx.lt k (by omega), getD_lt ry.lt k (by omega), ?_, fun wr hu => ?_⟩
      · rw [(bitw_xor).word m n k, ← rep_word rx k, ← rep_word ry k]
      · obtain ⟨_, _, h1, _, -, r1⟩ := (hx.up hu (Nat.le_refl _) (Nat.le_refl _)).word k (by omega)
        injection h1 with h1; injection h1 with h1 h2
        subst h1; subst h2
        obtain ⟨_, _, h1, _, -, r2⟩ := (hy.up hu (Nat.le_refl _) (Nat.le_refl _)).word k (by omega)
        injection h1 with h1; injection h1 with h1 h2
        subst h1; subst h2
        exact ⟨r1, r2⟩)
    have STEP : Hid (∀ c k wr, k < N → M ≤ c → Blk wr w.heap.size 144 (splice (zs (.int .u64 0) c) 0 ((dgs 18446744073709551616 k (fxor m n)).map wv)) → (∃ v, wr.cell? ⟨w.heap.size, k, none⟩ = some v) ∧ wr.frozen? ⟨w.heap.size, k, none⟩ = false ∧
        Hid (∀ d : Nat, fxor m n / 18446744073709551616 ^ k % 18446744073709551616 = d → Blk (wr.setCell ⟨w.heap.size, k, none⟩ (.int .u64 (d : Int))) w.heap.size 144 (splice (zs (.int .u64 0) c) 0 ((dgs 18446744073709551616 (k + 1) (fxor m n)).map wv)))) := Lib.hid (by
      intro c k wr hk hc hb
      have hl : (splice (zs (.int .u64 0) c) 0 ((dgs 18446744073709551616 k (fxor m n)).map wv)).length = c := by rw [length_splice _ _ _ (by simp [dgs_length, zs_length]; omega), zs_length]
      refine ⟨⟨_, hb.cell k (by rw [hl]; omega)⟩, hb.free k, Lib.hid ?_⟩
      rintro d rfl
      have h := hb.set k (wv (fxor m n / 18446744073709551616 ^ k % 18446744073709551616))
      have e := splice_set (zs (.int .u64 0) c) 0 k ((dgs 18446744073709551616 k (fxor m n)).map wv) (wv (fxor m n / 18446744073709551616 ^ k % 18446744073709551616)) (by simp [dgs_length]) (by rw [zs_length]; omega)
      rw [Nat.zero_add] at e
      rw [e] at h
      rw [dgs_snoc, List.map_append]
      exact h)
    have FIN : Hid (∀ (c : Nat) (w1 w2 : World), Below w.heap.size w w1 → Up (some w.heap.size) w1 w2 → w.heap.size < w1.heap.size → M ≤ c → Blk w2 w.heap.size 144 (splice (zs (.int .u64 0) c) 0 ((dgs 18446744073709551616 M (fxor m n)).map wv)) →
          Calls Try.prog 98 #[.slice (some ⟨w.heap.size, 0, none⟩) M c] w2 (NtPost (fxor m n) w)) := Lib.hid (by
        intro c w1 w2 hb hu hlt hc hk
        refine (row_done w.heap.size c M (fxor m n) _ hk hc (by omega) hS).mono ?_
        rintro e w' ⟨j, rfl, hnt, rfl⟩
        exact ⟨_, rfl, hnt, hb.trans (hu.below hb.size (fun k hk => by injection hk with hk; omega))⟩)
    have START : Hid (∀ c w1, w1 = w.alloc (.cells (zs (.int .u64 0) c).toArray 144) → Below w.heap.size w w1 ∧ w.heap.size < w1.heap.size ∧ Blk w1 w.heap.size 144 (splice (zs (.int .u64 0) c) 0 ((dgs 18446744073709551616 0 (fxor m n)).map wv)) ∧ Up (some w.heap.size) w w1) := Lib.hid (by
      rintro c w1 rfl
      refine ⟨(Below.refl _ _).alloc (Nat.le_refl _) _, by simp, ?_, (Up.refl _ _).alloc _⟩
      simp only [dgs, List.map_nil, splice_nil]
      exact Blk.new _ _ _)
    have HF : Hid (∀ u v : Nat, u < 18446744073709551616 → v < 18446744073709551616 → bits .xor .u64 (u : Int) (v : Int) = ((fxor u v : Nat) : Int)) := Lib.hid word_xor
    have C1 := Lib.hid (make_any2 M w (by omega) (by omega))
    obtain ⟨bl, ol, rfl, hbl, -, _⟩ := hx.word 0 (by omega)
    have hSN : fxor m n / 18446744073709551616 ^ N = m / 18446744073709551616 ^ N := by
      rw [(bitw_xor).high m n N, Nat.div_eq_of_lt (show n < 18446744073709551616 ^ N by rw [hN]; assumption), fxor_zero]
    have CP : Hid (∀ c, M ≤ c → splice (splice (zs (.int .u64 0) c) 0 ((dgs 18446744073709551616 N (fxor m n)).map wv)) N ((xs.drop N).map wv) = splice (zs (.int .u64 0) c) 0 ((dgs 18446744073709551616 M (fxor m n)).map wv)) := Lib.hid (fun c hc => rest_words rx N M c hNM (by omega) hc hSN)
    have NN : Hid (((xs.drop N).map wv).length = Nat.min (M - N) (M - N)) := Lib.hid (by simp; omega)
    have FF : Hid (∀ c, M ≤ c → N + ((xs.drop N).map wv).length ≤ (splice (zs (.int .u64 0) c) 0 ((dgs 18446744073709551616 N (fxor m n)).map wv)).length) := Lib.hid (by
      intro c hc
      rw [length_splice _ _ _ (by simp [dgs_length, zs_length]; omega), zs_length]
      simp; omega)
    have OO := Lib.hid (oneCell_wv (xs.drop N))
    have SRC : Hid (N < M → ∀ W, Up (some w.heap.size) w W → ∀ j v, ((xs.drop N).map wv)[j]? = some v → W.cell? ((⟨bl, ol + N, none⟩ : Addr).add j) = some v) := Lib.hid (fun h W hu => (hx.up hu (Nat.le_refl _) (Nat.le_refl _)).cells_from N (by omega))
    have NIL : Hid (N = M → xs.drop N = []) := Lib.hid (fun h => List.drop_of_length_le (by omega))
    clear hx hy rx ry v1 v2 hS hr1 hr2 hK1 hK2
    obtain rfl : K1 = M := hM.symm
    obtain rfl : K2 = N := hN.symm
    have hng : ¬ K1 < K2 := by omega
    go_enter Try.func87, Try.ntmps87
    go_wp2_with fail
    refine C1.out.mono ?_
    rintro e w1 ⟨c, hc3, hc4, hc5, rfl, hw1⟩
    obtain ⟨hb1, hl1, hk1, hu1⟩ := START.out c w1 hw1
    have HK1 := Lib.hid hk1
    have HB1 := Lib.hid hb1
    have HU1 := Lib.hid hu1
    clear hw1 hk1 hb1 hu1
    go_wp2_with fail
    go_loopw [10] (fun i wr => ∃ k : Nat, k ≤ K2 ∧ i = .int .i64 k ∧ Hid (Blk wr w.heap.size 144 (splice (zs (.int .u64 0) c) 0 ((dgs 18446744073709551616 k (fxor m n)).map wv))) ∧ Hid (Up (some w.heap.size) w1 wr)) (fun i _ => K2 - (intOf i).toNat)
    case atStart => exact ⟨0, Nat.zero_le _, rfl, HK1, Lib.hid (Up.refl _ _)⟩
    case round =>
      obtain ⟨k, hk, rfl, hb, hu⟩ := hrel
      by_cases hlt : k < K2
      · obtain ⟨b1, o1, b2, o2, u, v, hq1, rfl, hb1, hb2, gu, gv, hd, hcells⟩ := ROUND.out k hlt
        injection hq1 with hq1; injection hq1 with hq1 hq2
        obtain rfl : b1 = bl := hq1.symm
        obtain rfl : o1 = ol := hq2.symm
        obtain ⟨⟨cv, p1⟩, f1, hnext⟩ := STEP.out c k wr hlt hc3 hb.out
        have hu2 : Up (some w.heap.size) w wr := HU1.out.trans hu.out
        obtain ⟨q1, q2⟩ := hcells wr hu2
        have EQ := Lib.hid (HF.out u v gu gv)
        have HN := Lib.hid (hnext.out _ hd)
        have KS : Hid (∀ q val, ((wr.drewN q).setCell ⟨w.heap.size, k, none⟩ val).cell? ⟨b1, o1 + k, none⟩ = some (.int .u64 (u : Int)) ∧ ((wr.drewN q).setCell ⟨w.heap.size, k, none⟩ val).cell? ⟨b2, o2 + k, none⟩ = some (.int .u64 (v : Int))) := Lib.hid (fun q val => hcells _ ((hu2.drewN q).set k val))
        have hne1 : ¬ w.heap.size = b1 := by omega
        have hne2 : ¬ w.heap.size = b2 := by omega
        have hne3 : ¬ b1 = w.heap.size := by omega
        have hne4 : ¬ b2 = w.heap.size := by omega
        have hi1 : (0 : Int) ≤ (k : Int) := by omega
        have hi2 : (k : Int) < (K1 : Int) := by omega
        have hi3 : (k : Int) < (K2 : Int) := by omega
        have hi4 : (k : Int) < (K1 : Int) := by omega
        clear hcells hd hu2
        go_wp2_with fail
        go_region_held3 (fun w' => w'.cell? ⟨b1, o1 + k, none⟩ = some (.int .u64 (u : Int)) ∧ w'.cell? ⟨b2, o2 + k, none⟩ = some (.int .u64 (v : Int))) (first | (refine ⟨?_, ?_⟩ <;> assumption) | exact KS.out 1 _ | (refine ⟨?_, ?_⟩ <;> go_simp)) (fail)
        go_wp2_with fail
        go_roundw
        case rel => exact ⟨k + 1, by omega, by go_num, Lib.hid (by rw [EQ.out]; exact HN.out.drewN 1), Lib.hid ((hu.out.drewN 1).set _ _)⟩
        case measure => simp [intOf]; omega
      · obtain rfl : K2 = k := by omega
        have HBR := Lib.hid hb.out
        have HUR := Lib.hid (HU1.out.trans hu.out)
        have HUO := Lib.hid hu.out
        have ff := Lib.hid (FF.out c hc3)
        have hg1 : (0 : Int) ≤ (K2 : Int) := by omega
        have hg2 : (K2 : Int) ≤ (K1 : Int) := by omega
        have hg3 : (K1 : Int) ≤ (c1 : Int) := by omega
        have hg4 : (K1 : Int) ≤ (c : Int) := by omega
        clear ROUND STEP START HF C1 FF hb hu
        by_cases hnm : K2 = K1
        · clear NIL SRC
          obtain rfl : K2 = K1 := hnm
          have P3 := Lib.hid (FIN.out c w1 wr.drew HB1.out (HUO.out.drewN 1) hl1 hc3 (HBR.out.drewN 1))
          have cpz := fun (W : World) (dp ap : Option Addr) (dc cc : Nat) => run_copy_none (P := Try.prog) W 87 87 3 144 dp ap 0 dc 0 cc Try.underlying87 (by kernel_rfl) rfl
          by_cases hck : c = K2 <;> by_cases hcx : c1 = K2
          all_goals
            try (have hck2 : K2 = c := hck.symm; subst hck2)
            go_wp2_with fail
            go_region_held3 (fun _ => True) (trivial) (fail)
            go_wp2_with fail
            refine P3.out.mono ?_
            rintro e w4 ⟨v, rfl, h1, h2⟩
            have H1 := Lib.hid h1
            have H2 := Lib.hid h2
            clear h1 h2
            go_wp2_with fail
            go_ret
            exact ⟨_, rfl, H1.out, H2.out⟩
        · have hlt2 : K2 < K1 := by omega
          have HP : Hid (∀ q, 0 < ((xs.drop K2).map wv).length → ∀ j v, ((xs.drop K2).map wv)[j]? = some v → (wr.drewN q).cell? ((⟨bl, ol + K2, none⟩ : Addr).add j) = some v) := Lib.hid (fun q _ => SRC.out hlt2 _ (HUR.out.drewN q))
          have hck : ¬ c = K2 := by omega
          have hcx : ¬ c1 = K2 := by omega
          clear NIL SRC
          go_wp2_with fail
          go_region_held3 (fun _ => True) (trivial) ((refine step_copy_up (by rfl) (.tmp 45) (.tmp 49) 87 87 (by rfl) 144 Try.underlying87 (by kernel_rfl) _ _ _ _ _ _ (by rfl) (by rfl) w.heap.size K2 _ 144 (by exact HBR.out) ((xs.drop K2).map wv) NN.out (fun h => ⟨by simp, _, rfl, HP.out _ h⟩) ff.out OO.out w1 (by exact (HUO.out.drewN _)) ?_; intro w2 hk2 hu2))
          rw [CP.out c hc3] at hk2
          have P3 := Lib.hid (FIN.out c w1 w2 HB1.out hu2.out hl1 hc3 hk2.out)
          go_wp2_with fail
          refine P3.out.mono ?_
          rintro e w4 ⟨v, rfl, h1, h2⟩
          have H1 := Lib.hid h1
          have H2 := Lib.hid h2
          clear h1 h2
          go_wp2_with fail
          go_ret
          exact ⟨_, rfl, H1.out, H2.out⟩

set_option maxHeartbeats 1600000 in
theorem natXor_gt (xs ys : List Nat) (m n : Nat) (x y : Value) (w : World) (rx : Rep 18446744073709551616 xs m) (ry : Rep 18446744073709551616 ys n) (hx : Sl w w.heap.size x (xs.map wv)) (hy : Sl w w.heap.size y (ys.map wv)) (lx : xs.length ≤ 1024) (ly : ys.length ≤ 1024) (hway : xs.length < ys.length) :
    Calls Try.prog 87 #[.slice none 0 0, x, y] w (NtPost (fxor m n) w) := by
  obtain ⟨a1, c1, rfl, hc1, hr1⟩ := id hx
  obtain ⟨a2, c2, rfl, hc2, hr2⟩ := id hy
  simp only [List.length_map] at hx hy hc1 hc2 ⊢
  obtain ⟨K1, hK1⟩ : ∃ K, K = xs.length := ⟨_, rfl⟩
  obtain ⟨K2, hK2⟩ : ∃ K, K = ys.length := ⟨_, rfl⟩
  rw [← hK1] at hx hc1 lx hway ⊢
  rw [← hK2] at hy hc2 ly hway ⊢
  have v1 := rx.val_lt
  have v2 := ry.val_lt
  rw [← hK1] at v1
  rw [← hK2] at v2
  obtain ⟨M, hM⟩ : ∃ M, M = K2 := ⟨_, rfl⟩
  obtain ⟨N, hN⟩ : ∃ N, N = K1 := ⟨_, rfl⟩
  have hNM : N ≤ M := by omega
  have hN1 : N ≤ K1 := by omega
  have hN2 : N ≤ K2 := by omega
  have hS : fxor m n < 18446744073709551616 ^ M := by rw [hM]; exact (bitw_xor).lt_words (Nat.lt_of_lt_of_le v1 (Nat.pow_le_pow_right (by omega) (by omega))) v2
  by_cases h0 : M = 0
  · have e0 : fxor m n = 0 := by rw [h0] at hS; simpa using hS
    have CN : Hid (∀ W : World, Calls Try.prog 98 #[.slice none 0 0] W (NormPost none 0 0 W)) := Lib.hid (fun W => norm_any [] none 0 W.heap.size W (Sl.nil _ _) (by simp) (by simp))
    rw [e0]
    obtain rfl : K2 = M := hM.symm
    obtain rfl : K1 = N := hN.symm
    obtain rfl : K2 = 0 := h0
    obtain rfl : K1 = 0 := by omega
    clear hx hy rx ry v1 v2 hS hr1 hr2 e0 hK1 hK2
    have cpz := fun (W : World) (ap : Option Addr) (cc : Nat) => run_copy_none (P := Try.prog) W 87 87 3 144 none ap 0 0 0 cc Try.underlying87 (by kernel_rfl) rfl
    by_cases hcx : c2 = 0
    all_goals
      go_enter Try.func87, Try.ntmps87
      go_wp2_with fail
      refine (make_zero _).mono ?_
      rintro e w' ⟨rfl, rfl⟩
      go_wp2_with fail
      go_rounds 1
      go_region_held3 (fun _ => True) (trivial) (fail)
      go_wp2_with fail
      refine (CN.out _).mono ?_
      rintro e w' ⟨rfl, rfl⟩
      go_wp2_with fail
      go_ret
      exact ⟨_, rfl, ⟨[], rep_zero, Sl.nil _ _⟩, (Below.refl _ _).drew⟩
  · have hz1 : 0 < M := by omega
    have ROUND : Hid (∀ k, k < N → ∃ (b1 o1 b2 o2 u v : Nat), a1 = some ⟨b1, o1, none⟩ ∧ a2 = some ⟨b2, o2, none⟩ ∧ b1 < w.heap.size ∧ b2 < w.heap.size ∧ u < 18446744073709551616 ∧ v < 18446744073709551616 ∧
        fxor m n / 18446744073709551616 ^ k % 18446744073709551616 = fxor u v ∧ ∀ wr, Up (some w.heap.size) w wr → wr.cell? ⟨b1, o1 + k, none⟩ = some (.int .u64 (u : Int)) ∧ wr.cell? ⟨b2, o2 + k, none⟩ = some (.int .u64 (v : Int))) := Lib.hid (by
      intro k hk
      obtain ⟨b1, o1, rfl, hb1, -, q1⟩ := hx.word k (by omega)
      obtain ⟨b2, o2, rfl, hb2, -, q2⟩ := hy.word k (by omega)
      refine ⟨b1, o1, b2, o2, xs.getD k 0, ys.getD k 0, rfl, rfl, hb1, hb2, getD_lt rx.lt k (by omega), getD_lt ry.lt k (by omega), ?_, fun wr hu => ?_⟩
      · rw [(bitw_xor).word m n k, ← rep_word rx k, ← rep_word ry k]
      · obtain ⟨_, _, h1, _, -, r1⟩ := (hx.up hu (Nat.le_refl _) (Nat.le_refl _)).word k (by omega)
        injection h1 with h1; injection h1 with h1 h2
        subst h1; subst h2
        obtain ⟨_, _, h1, _, -, r2⟩ := (hy.up hu (Nat.le_refl _) (Nat.le_refl _)).word k (by omega)
        injection h1 with h1; injection h1 with h1 h2
        subst h1; subst h2
        exact ⟨r1, r2⟩)
    have STEP : Hid (∀ c k wr, k < N → M ≤ c → Blk wr w.heap.size 144 (splice (zs (.int .u64 0) c) 0 ((dgs 18446744073709551616 k (fxor m n)).map wv)) → (∃ v, wr.cell? ⟨w.heap.size, k, none⟩ = some v) ∧ wr.frozen? ⟨w.heap.size, k, none⟩ = false ∧
        Hid (∀ d : Nat, fxor m n / 18446744073709551616 ^ k % 18446744073709551616 = d → Blk (wr.setCell ⟨w.heap.size, k, none⟩ (.int .u64 (d : Int))) w.heap.size 144 (splice (zs (.int .u64 0) c) 0 ((dgs 18446744073709551616 (k + 1) (fxor m n)).map wv)))) := Lib.hid (by
      intro c k wr hk hc hb
      have hl : (splice (zs (.int .u64 0) c) 0 ((dgs 18446744073709551616 k (fxor m n)).map wv)).length = c := by rw [length_splice _ _ _ (by simp [dgs_length, zs_length]; omega), zs_length]
      refine ⟨⟨_, hb.cell k (by rw [hl]; omega)⟩, hb.free k, Lib.hid ?_⟩
      rintro d rfl
      have h := hb.set k (wv (fxor m n / 18446744073709551616 ^ k % 18446744073709551616))
      have e := splice_set (zs (.int .u64 0) c) 0 k ((dgs 18446744073709551616 k (fxor m n)).map wv) (wv (fxor m n / 18446744073709551616 ^ k % 18446744073709551616)) (by simp [dgs_length]) (by rw [zs_length]; omega)
      rw [Nat.zero_add] at e
      rw [e] at h
      rw [dgs_snoc, List.map_append]
      exact h)
    have FIN : Hid (∀ (c : Nat) (w1 w2 : World), Below w.heap.size w w1 → Up (some w.heap.size) w1 w2 → w.heap.size < w1.heap.size → M ≤ c → Blk w2 w.heap.size 144 (splice (zs (.int .u64 0) c) 0 ((dgs 18446744073709551616 M (fxor m n)).map wv)) →
          Calls Try.prog 98 #[.slice (some ⟨w.heap.size, 0, none⟩) M c] w2 (NtPost (fxor m n) w)) := Lib.hid (by
        intro c w1 w2 hb hu hlt hc hk
        refine (row_done w.heap.size c M (fxor m n) _ hk hc (by omega) hS).mono ?_
        rintro e w' ⟨j, rfl, hnt, rfl⟩
        exact ⟨_, rfl, hnt, hb.trans (hu.below hb.size (fun k hk => by injection hk with hk; omega))⟩)
    have START : Hid (∀ c w1, w1 = w.alloc (.cells (zs (.int .u64 0) c).toArray 144) → Below w.heap.size w w1 ∧ w.heap.size < w1.heap.size ∧ Blk w1 w.heap.size 144 (splice (zs (.int .u64 0) c) 0 ((dgs 18446744073709551616 0 (fxor m n)).map wv)) ∧ Up (some w.heap.size) w w1) := Lib.hid (by
      rintro c w1 rfl
      refine ⟨(Below.refl _ _).alloc (Nat.le_refl _) _, by simp, ?_, (Up.refl _ _).alloc _⟩
      simp only [dgs, List.map_nil, splice_nil]
      exact Blk.new _ _ _)
    have HF : Hid (∀ u v : Nat, u < 18446744073709551616 → v < 18446744073709551616 → bits .xor .u64 (u : Int) (v : Int) = ((fxor u v : Nat) : Int)) := Lib.hid word_xor
    have C1 := Lib.hid (make_any2 M w (by omega) (by omega))
    obtain ⟨bl, ol, rfl, hbl, -, _⟩ := hy.word 0 (by omega)
    have hSN : fxor m n / 18446744073709551616 ^ N = n / 18446744073709551616 ^ N := by
      rw [(bitw_xor).high m n N, Nat.div_eq_of_lt (show m < 18446744073709551616 ^ N by rw [hN]; assumption), zero_fxor]
    have CP : Hid (∀ c, M ≤ c → splice (splice (zs (.int .u64 0) c) 0 ((dgs 18446744073709551616 N (fxor m n)).map wv)) N ((ys.drop N).map wv) = splice (zs (.int .u64 0) c) 0 ((dgs 18446744073709551616 M (fxor m n)).map wv)) := Lib.hid (fun c hc => rest_words ry N M c hNM (by omega) hc hSN)
    have NN : Hid (((ys.drop N).map wv).length = Nat.min (M - N) (M - N)) := Lib.hid (by simp; omega)
    have FF : Hid (∀ c, M ≤ c → N + ((ys.drop N).map wv).length ≤ (splice (zs (.int .u64 0) c) 0 ((dgs 18446744073709551616 N (fxor m n)).map wv)).length) := Lib.hid (by
      intro c hc
      rw [length_splice _ _ _ (by simp [dgs_length, zs_length]; omega), zs_length]
      simp; omega)
    have OO := Lib.hid (oneCell_wv (ys.drop N))
    have SRC : Hid (N < M → ∀ W, Up (some w.heap.size) w W → ∀ j v, ((ys.drop N).map wv)[j]? = some v → W.cell? ((⟨bl, ol + N, none⟩ : Addr).add j) = some v) := Lib.hid (fun h W hu => (hy.up hu (Nat.le_refl _) (Nat.le_refl _)).cells_from N (by omega))
    have NIL : Hid (N = M → ys.drop N = []) := Lib.hid (fun h => List.drop_of_length_le (by omega))
    clear hx hy rx ry v1 v2 hS hr1 hr2 hK1 hK2
    obtain rfl : K2 = M := hM.symm
    obtain rfl : K1 = N := hN.symm
    have hng : K1 < K2 := by omega
    go_enter Try.func87, Try.ntmps87
    go_wp2_with fail
    refine C1.out.mono ?_
    rintro e w1 ⟨c, hc3, hc4, hc5, rfl, hw1⟩
    obtain ⟨hb1, hl1, hk1, hu1⟩ := START.out c w1 hw1
    have HK1 := Lib.hid hk1
    have HB1 := Lib.hid hb1
    have HU1 := Lib.hid hu1
    clear hw1 hk1 hb1 hu1
    go_wp2_with fail
    go_loopw [10] (fun i wr => ∃ k : Nat, k ≤ K1 ∧ i = .int .i64 k ∧ Hid (Blk wr w.heap.size 144 (splice (zs (.int .u64 0) c) 0 ((dgs 18446744073709551616 k (fxor m n)).map wv))) ∧ Hid (Up (some w.heap.size) w1 wr)) (fun i _ => K1 - (intOf i).toNat)
    case atStart => exact ⟨0, Nat.zero_le _, rfl, HK1, Lib.hid (Up.refl _ _)⟩
    case round =>
      obtain ⟨k, hk, rfl, hb, hu⟩ := hrel
      by_cases hlt : k < K1
      · obtain ⟨b1, o1, b2, o2, u, v, rfl, hq1, hb1, hb2, gu, gv, hd, hcells⟩ := ROUND.out k hlt
        injection hq1 with hq1; injection hq1 with hq1 hq2
        obtain rfl : b2 = bl := hq1.symm
        obtain rfl : o2 = ol := hq2.symm
        obtain ⟨⟨cv, p1⟩, f1, hnext⟩ := STEP.out c k wr hlt hc3 hb.out
        have hu2 : Up (some w.heap.size) w wr := HU1.out.trans hu.out
        obtain ⟨q1, q2⟩ := hcells wr hu2
        have EQ := Lib.hid (HF.out u v gu gv)
        have HN := Lib.hid (hnext.out _ hd)
        have KS : Hid (∀ q val, ((wr.drewN q).setCell ⟨w.heap.size, k, none⟩ val).cell? ⟨b1, o1 + k, none⟩ = some (.int .u64 (u : Int)) ∧ ((wr.drewN q).setCell ⟨w.heap.size, k, none⟩ val).cell? ⟨b2, o2 + k, none⟩ = some (.int .u64 (v : Int))) := Lib.hid (fun q val => hcells _ ((hu2.drewN q).set k val))
        have hne1 : ¬ w.heap.size = b1 := by omega
        have hne2 : ¬ w.heap.size = b2 := by omega
        have hne3 : ¬ b1 = w.heap.size := by omega
        have hne4 : ¬ b2 = w.heap.size := by omega
        have hi1 : (0 : Int) ≤ (k : Int) := by omega
        have hi2 : (k : Int) < (K1 : Int) := by omega
        have hi3 : (k : Int) < (K2 : Int) := by omega
        have hi4 : (k : Int) < (K2 : Int) := by omega
        clear hcells hd hu2
        go_wp2_with fail
        go_region_held3 (fun w' => w'.cell? ⟨b1, o1 + k, none⟩ = some (.int .u64 (u : Int)) ∧ w'.cell? ⟨b2, o2 + k, none⟩ = some (.int .u64 (v : Int))) (first | (refine ⟨?_, ?_⟩ <;> assumption) | exact KS.out 1 _ | (refine ⟨?_, ?_⟩ <;> go_simp)) (fail)
        go_wp2_with fail
        go_roundw
        case rel => exact ⟨k + 1, by omega, by go_num, Lib.hid (by rw [EQ.out]; exact HN.out.drewN 1), Lib.hid ((hu.out.drewN 1).set _ _)⟩
        case measure => simp [intOf]; omega
      · obtain rfl : K1 = k := by omega
        have HBR := Lib.hid hb.out
        have HUR := Lib.hid (HU1.out.trans hu.out)
        have HUO := Lib.hid hu.out
        have ff := Lib.hid (FF.out c hc3)
        have hg1 : (0 : Int) ≤ (K1 : Int) := by omega
        have hg2 : (K1 : Int) ≤ (K2 : Int) := by omega
        have hg3 : (K2 : Int) ≤ (c2 : Int) := by omega
        have hg4 : (K2 : Int) ≤ (c : Int) := by omega
        clear ROUND STEP START HF C1 FF hb hu
        by_cases hnm : K1 = K2
        · clear NIL SRC
          obtain rfl : K1 = K2 := hnm
          have P3 := Lib.hid (FIN.out c w1 wr.drew HB1.out (HUO.out.drewN 1) hl1 hc3 (HBR.out.drewN 1))
          have cpz := fun (W : World) (dp ap : Option Addr) (dc cc : Nat) => run_copy_none (P := Try.prog) W 87 87 3 144 dp ap 0 dc 0 cc Try.underlying87 (by kernel_rfl) rfl
          by_cases hck : c = K1 <;> by_cases hcx : c2 = K1
          all_goals
            try (have hck2 : K1 = c := hck.symm; subst hck2)
            go_wp2_with fail
            go_region_held3 (fun _ => True) (trivial) (fail)
            go_wp2_with fail
            refine P3.out.mono ?_
            rintro e w4 ⟨v, rfl, h1, h2⟩
            have H1 := Lib.hid h1
            have H2 := Lib.hid h2
            clear h1 h2
            go_wp2_with fail
            go_ret
            exact ⟨_, rfl, H1.out, H2.out⟩
        · have hlt2 : K1 < K2 := by omega
          have HP : Hid (∀ q, 0 < ((ys.drop K1).map wv).length → ∀ j v, ((ys.drop K1).map wv)[j]? = some v → (wr.drewN q).cell? ((⟨bl, ol + K1, none⟩ : Addr).add j) = some v) := Lib.hid (fun q _ => SRC.out hlt2 _ (HUR.out.drewN q))
          have hck : ¬ c = K1 := by omega
          have hcx : ¬ c2 = K1 := by omega
          clear NIL SRC
          go_wp2_with fail
          go_region_held3 (fun _ => True) (trivial) ((refine step_copy_up (by rfl) (.tmp 45) (.tmp 49) 87 87 (by rfl) 144 Try.underlying87 (by kernel_rfl) _ _ _ _ _ _ (by rfl) (by rfl) w.heap.size K1 _ 144 (by exact HBR.out) ((ys.drop K1).map wv) NN.out (fun h => ⟨by simp, _, rfl, HP.out _ h⟩) ff.out OO.out w1 (by exact (HUO.out.drewN _)) ?_; intro w2 hk2 hu2))
          rw [CP.out c hc3] at hk2
          have P3 := Lib.hid (FIN.out c w1 w2 HB1.out hu2.out hl1 hc3 hk2.out)
          go_wp2_with fail
          refine P3.out.mono ?_
          rintro e w4 ⟨v, rfl, h1, h2⟩
          have H1 := Lib.hid h1
          have H2 := Lib.hid h2
          clear h1 h2
          go_wp2_with fail
          go_ret
          exact ⟨_, rfl, H1.out, H2.out⟩

theorem natXor_any (m n : Nat) (x y : Value) (w : World) (hx : Nt w w.heap.size x m) (hy : Nt w w.heap.size y n) (hm : m < lim) (hn : n < lim) :
    Calls Try.prog 87 #[.slice none 0 0, x, y] w (NtPost (fxor m n) w) := by
  obtain ⟨xs, rx, sx⟩ := hx
  obtain ⟨ys, ry, sy⟩ := hy
  have lx := nt_len rx hm
  have ly := nt_len ry hn
  rcases Nat.lt_or_ge xs.length ys.length with h | h
  · exact natXor_gt xs ys m n x y w rx ry sx sy lx ly h
  · exact natXor_le xs ys m n x y w rx ry sx sy lx ly h
end Go.Proofs.Ythnmkbdeoahiaaa
