/- (nat).sub: a nat is taken from another one, in its own place. -/
import Derived.Test.YtpcnmgldmnncoaaGreatDoorAddOwn
import Derived.Test.YtpcnmgldmnncoaaGreatDoorNatSub
namespace Go.Proofs.YtpcnmgldmnncoaaGreatDoor
open Go.RowKit Dig
set_option linter.unusedVariables false
set_option linter.unusedSimpArgs false
set_option maxRecDepth 100000

set_option maxHeartbeats 3200000 in
theorem natSubBack_own (xs ws : List Nat) (m n H bz N c0 : Nat) (x : Value) (L0 : List Value) (w : World) (rx : Rep 18446744073709551616 xs m) (rw_ : Rep 18446744073709551616 ws n) (hx : Sl w H x (xs.map wv)) (lx : xs.length ≤ 600) (hwn : ws.length = N) (hN0 : 0 < N) (hNc : N ≤ c0) (hc0 : c0 ≤ 1048576) (hL0 : L0.length = c0) (hk : Blk w bz 79 L0) (htk : L0.take N = ws.map wv) (hHz : H ≤ bz)
    (hH : H ≤ w.heap.size) (hmn : n ≤ m) :
    Calls Tryz.prog 52 #[.slice (some ⟨bz, 0, none⟩) N c0, x, .slice (some ⟨bz, 0, none⟩) N c0] w (OwPost H (m - n) w) := by
  have hge : ws.length ≤ xs.length := by
    rcases Nat.lt_or_ge xs.length ws.length with h | h
    · exfalso
      have := Rep.len_lt (by omega) rx rw_ h
      omega
    · exact h
  obtain ⟨a1, c1, rfl, hc1, hr1⟩ := id hx
  simp only [List.length_map] at hx hc1 ⊢
  obtain ⟨K, hK⟩ : ∃ K, K = xs.length := ⟨_, rfl⟩
  rw [← hK] at hx hc1 hge lx ⊢
  rw [hwn] at hge
  have h1 : xs ≠ [] := fun h => by rw [h] at hK; simp at hK; omega
  obtain ⟨b1, o1, rfl, hb1, hrd1⟩ := hr1 (by simpa using h1)
  have hS : m - n < 18446744073709551616 ^ K := by
    have e1 := rx.val_lt
    rw [← hK] at e1
    omega
  have hnN : n < 18446744073709551616 ^ N := by
    have e2 := rw_.val_lt
    rwa [hwn] at e2
  have hms : m = nval 18446744073709551616 (xs.take N) + 18446744073709551616 ^ N * nval 18446744073709551616 (xs.drop N) := by
    have := nval_split xs N (by omega)
    rwa [rx.val] at this
  have hlow := dgs_sub_low 18446744073709551616 N _ _ n m hms hnN (take_lt rx.lt N) hmn
  obtain ⟨hhigh, hbor⟩ := sub_high 18446744073709551616 N _ _ n m hms hnN (take_lt rx.lt N) hmn
  have hbr : (if nval 18446744073709551616 (xs.take N) < n then 1 else 0) ≤ 1 := by split <;> omega
  have hrow : ∀ i, i < N → L0.getD i undef = .int .u64 ((ws.getD i 0 : Nat) : Int) := fun i hi => by
    rw [← take_getD hi, htk, getD_map_wv _ _ (by omega)]
  have CM := Lib.hid (make_own (some ⟨bz, 0, none⟩) N c0 K H w (.inr ⟨bz, L0, rfl, hHz, ⟨hL0, by omega⟩, hk⟩) (by omega) (by omega) hc0 hH (by intro h; cases h))
  -- the first N words
  have Q1 : Hid (∀ (b c : Nat) (L : List Value) (w1 : World), Below w.heap.size w w1 → H ≤ b → L.length = c → K ≤ c → Blk w1 b 79 L → Blk w1 bz 79 L0 → ∀ q, Calls Tryz.prog 67 #[.slice (some ⟨b, 0, none⟩) N c, .slice (some ⟨b1, o1, none⟩) N c1, .slice (some ⟨bz, 0, none⟩) N c0] (w1.drewN q)
      (VecPost b (splice L 0 ((dgs 18446744073709551616 N (m - n)).map wv)) (if nval 18446744073709551616 (xs.take N) < n then 1 else 0) w1)) := Lib.hid (by
    intro b c L w1 hb hHb hL hc hkb hkz q
    have h := subVV_gen (xs.take N) ws L b 0 N c c1 c0 (some ⟨b1, o1, none⟩) (some ⟨bz, 0, none⟩) (w1.drewN q) (by omega) hNc (by simp; omega) hwn (fun u hu => rx.lt u (List.mem_of_mem_take hu)) rw_.lt (hkb.drewN q) (by omega) (by omega) (fun wr k hk1 hbk hup => by
      refine ⟨⟨b1, o1, rfl, ?_⟩, bz, 0, rfl, ?_⟩
      · have hlt : b1 < w.heap.size := by omega
        have h1 : w1.cell? ⟨b1, o1 + k, none⟩ = some (.int .u64 ((xs.getD k 0 : Nat) : Int)) := by
          have := hrd1 k (by simp; omega)
          rw [getD_map_wv _ _ (by omega)] at this
          exact (hb.cell (p := ⟨b1, o1 + k, none⟩) hlt).trans this
        have hl1 := lt_of_cell h1
        have e : (xs.take N).getD k 0 = xs.getD k 0 := by rw [List.getD_eq_getElem?_getD, List.getD_eq_getElem?_getD, List.getElem?_take, if_pos hk1]
        rw [e]
        exact (World.cell?_of_block (a := ⟨b1, o1 + k, none⟩) (hup.block b1 hl1 (by intro e; injection e with e; omega))).trans h1
      · by_cases e : bz = b
        · subst e
          obtain ⟨-, rfl⟩ := hkz.inj hkb
          have hb1 := splice_beyond L0 ((dgs 18446744073709551616 k (difK (xs.take N) ws k)).map wv) 0 k (by rw [List.length_map, dgs_length]; exact Nat.le_refl _) (by rw [List.length_map, dgs_length]; omega)
          rw [Nat.zero_add] at hb1 ⊢
          rw [hbk.cell k (by rw [length_splice _ _ _ (by rw [List.length_map, dgs_length]; omega)]; omega), hb1, hrow k hk1]
        · have hz : Blk wr bz 79 L0 := (hkz.drewN q).up hup (by intro e'; injection e' with e'; exact e e')
          rw [Nat.zero_add, hz.cell k (by omega), hrow k hk1])
    rw [rw_.val, hlow] at h
    refine h.mono ?_
    rintro e w' ⟨rfl, h1, h2⟩
    exact ⟨rfl, h1, ((Up.refl _ _).drewN q).trans h2⟩)
  -- the words behind
  have Q2 : Hid (N < K → ∀ (b c : Nat) (L : List Value) (w1 w2 : World), Below w.heap.size w w1 → H ≤ b → L.length = c → K ≤ c → Up (some b) w1 w2 → Blk w2 b 79 (splice L 0 ((dgs 18446744073709551616 N (m - n)).map wv)) → ∀ q, Calls Tryz.prog 68 #[.slice (some ⟨b, N, none⟩) (K - N) (c - N), .slice (some ⟨b1, o1 + N, none⟩) (K - N) (c1 - N), .int .u64 ((if nval 18446744073709551616 (xs.take N) < n then 1 else 0 : Nat) : Int)] (w2.drewN q)
      (VecPost b (splice L 0 ((dgs 18446744073709551616 K (m - n)).map wv)) 0 w1)) := Lib.hid (by
    intro hKN b c L w1 w2 hb hHb hL hc hu hk2 q
    have hl1 : (splice L 0 ((dgs 18446744073709551616 N (m - n)).map wv)).length = c := by rw [length_splice _ _ _ (by rw [List.length_map, dgs_length]; omega)]; exact hL
    have hsl : Sl w2 b (.slice (some ⟨b1, o1 + N, none⟩) (K - N) (c1 - N)) ((xs.drop N).map wv) := by
      have h1 := ((hx.rest N (by omega) (by omega)).keep (w' := w1) fun bb oo hlt => (by
        have hlt2 : bb < w.heap.size := by omega
        exact hb.cell (p := ⟨bb, oo, none⟩) hlt2)).up hu (by have := hb.size; omega) hHb
      exact h1.more hHb
    have h := subVW_any (xs.drop N) (if nval 18446744073709551616 (xs.take N) < n then 1 else 0) _ b N (K - N) (c - N) b _ (w2.drewN q) (hsl.drewN q) (by simp; omega) (fun u hu => rx.lt u (List.mem_of_mem_drop hu)) (by omega) (by omega) (Nat.le_refl _) (by have := hk2.lt; exact Nat.le_of_lt this) (hk2.drewN q) (by rw [hl1]; omega) (by omega) hbr
    refine h.mono ?_
    rintro e w' ⟨rfl, h1, h2⟩
    have e3 := splice_splice L 0 ((dgs 18446744073709551616 N (m - n)).map wv) ((dgs 18446744073709551616 (K - N) ((m - n) / 18446744073709551616 ^ N)).map wv) (by simp [dgs_length]; omega)
    rw [Nat.zero_add, List.length_map, dgs_length, ← List.map_append, ← dgs_append, show N + (K - N) = K by omega] at e3
    have e4 : nval 18446744073709551616 (xs.drop N) + 18446744073709551616 ^ (K - N) - (if nval 18446744073709551616 (xs.take N) < n then 1 else 0) = (m - n) / 18446744073709551616 ^ N + 18446744073709551616 ^ (K - N) * 1 := by rw [hhigh]; omega
    rw [e4, dgs_add_mul, e3] at h1
    exact ⟨by rw [if_neg (by omega)], h1, hu.trans (((Up.refl _ _).drewN q).trans h2)⟩)
  -- the end
  have Q3 : Hid (∀ (b c : Nat) (L : List Value) (w1 w2 : World), Below w.heap.size w w1 → H ≤ b → L.length = c → K ≤ c → c ≤ 1048576 → Up (some b) w1 w2 → Blk w2 b 79 (splice L 0 ((dgs 18446744073709551616 K (m - n)).map wv)) →
      Calls Tryz.prog 56 #[.slice (some ⟨b, 0, none⟩) K c] w2 (OwPost H (m - n) w)) := Lib.hid (by
    intro b c L w1 w2 hb hHb hL hc hc9 hu hk2
    refine (norm_own (H := H) _ hk2 hL hc (by omega) hc9 hS hHb).mono ?_
    rintro e w' ⟨v, rfl, hv, rfl⟩
    exact ⟨_, rfl, hv, (hb.mono hH).trans (hu.below (by have := hb.size; omega) (fun k hk => by injection hk with hk; omega))⟩)
  have HE : Hid (N = K → (if nval 18446744073709551616 (xs.take N) < n then 1 else 0) = 0) := Lib.hid (by
    intro h
    rw [List.take_of_length_le (by omega), rx.val, if_neg (by omega)])
  have HKZ : Hid (Blk w bz 79 L0) := Lib.hid hk
  generalize (if nval 18446744073709551616 (xs.take N) < n then 1 else 0) = k0 at *
  have hz1 : ¬ K < N := by omega
  have hz2 : ((K : Int) == 0) = false := by rw [beq_eq_false_iff_ne]; omega
  have hz3 : ((N : Int) == 0) = false := by rw [beq_eq_false_iff_ne]; omega
  have hg1 : (N : Int) ≤ (K : Int) := by omega
  have hg2 : (N : Int) ≤ (c1 : Int) := by omega
  have hg3 : (N : Int) ≤ (c0 : Int) := by omega
  have hg4 : (0 : Int) ≤ (N : Int) := by omega
  clear hr1 hx rx rw_ h1 hS hK hwn hnN hms hlow hhigh hbor hbr hrow htk hk hL0 hrd1
  by_cases hNK : N < K
  · have hck : ¬ c1 = N := by omega
    go_enter Tryz.func52, Tryz.ntmps52
    go_wp2_with fail
    with_reducible refine CM.out.mono ?_
    rintro e w1 hp
    have HBL := Lib.hid hp.below
    obtain ⟨b, c, L, rfl, p1, p2, p3, p4, p5, p6⟩ := hp
    have hkz : Blk w1 bz 79 L0 := by
      rcases p6 with ⟨rfl, _⟩ | ⟨_, rfl⟩
      · exact HKZ.out
      · exact HKZ.out.alloc _
    have P1 := Lib.hid (Q1.out b c L w1 HBL.out p3 p4 p1 p5 hkz)
    clear p5 p6 hkz CM
    have hg5 : (N : Int) ≤ (c : Int) := by omega
    have hg6 : (K : Int) ≤ (c : Int) := by omega
    have hck2 : ¬ c = N := by omega
    go_wp2_with fail
    go_region_held3 (fun _ => True) (trivial) ((go_at_call 67; refine (P1.out _).mono ?_; rintro e w2 ⟨rfl, hk2, hu2⟩; have HK2 := Lib.hid hk2; have HU2 := Lib.hid hu2; clear hk2 hu2))
    have P2 := Lib.hid (Q2.out hNK b c L w1 w2 HBL.out p3 p4 p1 HU2.out HK2.out)
    go_wp2_with fail
    go_region_held3 (fun _ => True) (trivial) ((go_at_call 68; refine (P2.out _).mono ?_; rintro e w3 ⟨rfl, hk3, hu3⟩; have HK3 := Lib.hid hk3; have HU3 := Lib.hid hu3; clear hk3 hu3))
    have P3 := Lib.hid (Q3.out b c L w1 w3 HBL.out p3 p4 p1 p2 HU3.out HK3.out)
    go_wp2_with fail
    refine P3.out.mono ?_
    rintro e w4 ⟨v, rfl, h1, h2⟩
    have H1 := Lib.hid h1
    have H2 := Lib.hid h2
    clear h1 h2
    go_wp2_with fail
    go_ret
    exact ⟨_, rfl, H1.out, H2.out⟩
  · obtain rfl : N = K := by omega
    obtain rfl := HE.out rfl
    go_enter Tryz.func52, Tryz.ntmps52
    go_wp2_with fail
    with_reducible refine CM.out.mono ?_
    rintro e w1 hp
    have HBL := Lib.hid hp.below
    obtain ⟨b, c, L, rfl, p1, p2, p3, p4, p5, p6⟩ := hp
    have hkz : Blk w1 bz 79 L0 := by
      rcases p6 with ⟨rfl, _⟩ | ⟨_, rfl⟩
      · exact HKZ.out
      · exact HKZ.out.alloc _
    have P1 := Lib.hid (Q1.out b c L w1 HBL.out p3 p4 p1 p5 hkz)
    clear p5 p6 hkz CM
    have hg5 : (N : Int) ≤ (c : Int) := by omega
    go_wp2_with fail
    go_region_held3 (fun _ => True) (trivial) ((go_at_call 67; refine (P1.out _).mono ?_; rintro e w2 ⟨rfl, hk2, hu2⟩; have HK2 := Lib.hid hk2; have HU2 := Lib.hid hu2; clear hk2 hu2))
    have P3 := Lib.hid (Q3.out b c L w1 w2 HBL.out p3 p4 p1 p2 HU2.out HK2.out)
    go_wp2_with fail
    refine P3.out.mono ?_
    rintro e w4 ⟨v, rfl, h1, h2⟩
    have H1 := Lib.hid h1
    have H2 := Lib.hid h2
    clear h1 h2
    go_wp2_with fail
    go_ret
    exact ⟨_, rfl, H1.out, H2.out⟩
/-- one less nothing, laid in the place of the nothing -/
theorem natSub0_own (H c0 b2 o2 c2 : Nat) (a : Option Addr) (w : World) (hr : RowOf w H a c0) (hc0 : c0 ≤ 1048576) (hH : H ≤ w.heap.size) (hc2 : 1 ≤ c2) (hone : w.cell? ⟨b2, o2, none⟩ = some (.int .u64 1)) :
    Calls Tryz.prog 52 #[.slice a 0 c0, .slice (some ⟨b2, o2, none⟩) 1 c2, .slice a 0 c0] w (OwPost H 1 w) := by
  have hsl : Sl w w.heap.size (.slice (some ⟨b2, o2, none⟩) 1 c2) (([1] : List Nat).map wv) := by
    refine ⟨_, c2, rfl, by simpa using hc2, fun _ => ⟨b2, o2, rfl, lt_of_cell hone, fun i hi => ?_⟩⟩
    obtain rfl : i = 0 := by simp at hi; omega
    rw [Nat.add_zero, hone]; rfl
  have C := Lib.hid (set_own [1] 1 H w.heap.size a 0 c0 _ w hr (fun _ => rfl) hc0 hH (Nat.le_refl _) hsl ⟨by simp, by simp [nval], by simp [Nrm]⟩ (by simp) (by simp))
  clear hr hsl
  go_enter Tryz.func52, Tryz.ntmps52
  go_wp2_with fail
  refine C.out.mono ?_
  rintro e w1 ⟨v, rfl, hs, hb⟩
  have HS := Lib.hid hs
  have HB := Lib.hid hb
  clear hs hb
  go_wp2_with fail
  go_ret
  exact ⟨_, rfl, HS.out, HB.out⟩
end Go.Proofs.YtpcnmgldmnncoaaGreatDoor
