/- (nat).add: one is added to a nat in its own place. -/
import Derived.Test.YtpcnmgldmnncoaaGreatDoorMVec2
import Derived.Test.YtpcnmgldmnncoaaGreatDoorVWSelf
import Derived.Test.YtpcnmgldmnncoaaGreatDoorVecGen
import Derived.Test.YtpcnmgldmnncoaaGreatDoorNatAdd
import Derived.Deep.RegionHeld3
namespace Go.Proofs.YtpcnmgldmnncoaaGreatDoor
open Go.RowKit Dig
set_option linter.unusedVariables false
set_option linter.unusedSimpArgs false
set_option maxRecDepth 100000

/-- norm of a row of one's own -/
theorem norm_own {b N Q c H : Nat} {L : List Value} (w : World) (hk : Blk w b 79 (splice L 0 ((dgs 18446744073709551616 N Q).map wv))) (hL : L.length = c) (hN : N ≤ c) (hc0 : 0 < c) (hc : c ≤ 1048576) (hQ : Q < 18446744073709551616 ^ N) (hH : H ≤ b) :
    Calls Tryz.prog 56 #[.slice (some ⟨b, 0, none⟩) N c] w fun e w' => ∃ v, e = .returned v ∧ Ow w' H v Q ∧ w = w' := by
  have hn := norm_any (dgs 18446744073709551616 N Q) (some ⟨b, 0, none⟩) c _ w (Ow.sl_row hk hL hN) (dgs_lt _ (by omega) _ _) (by rw [dgs_length]; omega)
  rw [dgs_length] at hn
  refine hn.mono ?_
  rintro e w' ⟨rfl, rfl⟩
  exact ⟨_, rfl, Ow.of_row hk hL hN hc0 hc hQ hH, rfl⟩
theorem add1_low (xs : List Nat) (Q : Nat) (rx : Rep 18446744073709551616 xs Q) (h0 : 0 < xs.length) : Q = xs.getD 0 0 + 18446744073709551616 * nval 18446744073709551616 (xs.drop 1) ∧ xs.getD 0 0 < 18446744073709551616 := by
  refine ⟨?_, getD_lt rx.lt 0 h0⟩
  have h := nval_split xs 1 (by omega)
  rw [rx.val, Nat.pow_one] at h
  rw [h]
  obtain ⟨v, t, rfl⟩ : ∃ v t, xs = v :: t := by
    rcases xs with _ | ⟨v, t⟩
    · simp at h0
    · exact ⟨v, t, rfl⟩
  simp [nval]
set_option maxHeartbeats 3200000 in
theorem natAdd1_own (xs : List Nat) (Q H bz K c0 b2 o2 c2 : Nat) (L0 : List Value) (w : World) (rx : Rep 18446744073709551616 xs Q) (hK : xs.length = K) (hK0 : 0 < K) (hK6 : K ≤ 600) (hKc : K ≤ c0) (hc0 : c0 ≤ 1048576) (hL0 : L0.length = c0) (hk : Blk w bz 79 L0) (htk : L0.take K = xs.map wv) (hHz : H ≤ bz)
    (hH : H ≤ w.heap.size) (hb2 : b2 ≠ bz) (hc2 : 1 ≤ c2) (hone : w.cell? ⟨b2, o2, none⟩ = some (.int .u64 1)) :
    Calls Tryz.prog 50 #[.slice (some ⟨bz, 0, none⟩) K c0, .slice (some ⟨bz, 0, none⟩) K c0, .slice (some ⟨b2, o2, none⟩) 1 c2] w (OwPost H (Q + 1) w) := by
  obtain ⟨hQ, hx0⟩ := add1_low xs Q rx (by omega)
  have hbl : b2 < w.heap.size := lt_of_cell hone
  have hS : Q + 1 < 18446744073709551616 ^ (K + 1) := by
    have e1 := rx.val_lt
    rw [hK] at e1
    have : 0 < (18446744073709551616 : Nat) ^ K := Nat.pow_pos (by omega)
    rw [Nat.pow_succ]; omega
  have hrow : ∀ i, i < K → L0.getD i undef = .int .u64 ((xs.getD i 0 : Nat) : Int) := fun i hi => by
    rw [← take_getD hi, htk, getD_map_wv _ _ (by omega)]
  have CM := Lib.hid (make_own (some ⟨bz, 0, none⟩) K c0 (K + 1) H w (.inr ⟨bz, L0, rfl, hHz, ⟨hL0, by omega⟩, hk⟩) (by omega) (by omega) hc0 hH (by intro h; cases h))
  rw [show ((K + 1 : Nat) : Int) = (K : Int) + 1 by omega] at CM
  obtain ⟨x0, hx0e⟩ : ∃ x0, x0 = xs.getD 0 0 := ⟨_, rfl⟩
  rw [← hx0e] at hQ hx0
  obtain ⟨T, hT⟩ : ∃ T, T = nval 18446744073709551616 (xs.drop 1) := ⟨_, rfl⟩
  rw [← hT] at hQ
  have hd1 : dgs 18446744073709551616 1 (x0 + 1) = dgs 18446744073709551616 1 (Q + 1) := dgs_congr (by rw [hQ, Nat.pow_one]; omega)
  have hcar : (Q + 1) / 18446744073709551616 = T + (x0 + 1) / 18446744073709551616 := by omega
  -- the first word
  have Q1 : Hid (∀ (b c : Nat) (L : List Value) (w1 : World), Below w.heap.size w w1 → H ≤ b → L.length = c → K + 1 ≤ c → Blk w1 b 79 L → Blk w1 bz 79 L0 → ¬ b2 = b → ∀ q, Calls Tryz.prog 65 #[.slice (some ⟨b, 0, none⟩) (1 : Nat) c, .slice (some ⟨bz, 0, none⟩) (1 : Nat) c0, .slice (some ⟨b2, o2, none⟩) (1 : Nat) c2] (w1.drewN q)
      (VecPost b (splice L 0 ((dgs 18446744073709551616 1 (Q + 1)).map wv)) ((x0 + 1) / 18446744073709551616) w1)) := Lib.hid (by
    intro b c L w1 hb hHb hL hc hkb hkz hnb q
    have h := addVV_gen [x0] [1] L b 0 1 c c0 c2 (some ⟨bz, 0, none⟩) (some ⟨b2, o2, none⟩) (w1.drewN q) (by omega) hc2 rfl rfl (by simpa using hx0) (by simp) (hkb.drewN q) (by omega) (by omega) (fun wr k hk1 hb1 hup => by
      obtain rfl : k = 0 := by omega
      refine ⟨⟨bz, 0, rfl, ?_⟩, b2, o2, rfl, ?_⟩
      · have hz : Blk wr bz 79 L0 := by
          by_cases e : bz = b
          · subst e
            obtain ⟨-, rfl⟩ := hkz.inj hkb
            simpa [dgs, splice_nil] using hb1
          · exact (hkz.drewN q).up hup (by intro e'; injection e' with e'; exact e e')
        rw [Nat.add_zero, hz.cell 0 (by omega), hrow 0 hK0, ← hx0e]; rfl
      · have hlt : b2 < w.heap.size := hbl
        have h1 : w1.cell? ⟨b2, o2, none⟩ = some (.int .u64 1) := (hb.cell (p := ⟨b2, o2, none⟩) hlt).trans hone
        have hl1 := lt_of_cell h1
        rw [Nat.add_zero]
        exact (World.cell?_of_block (a := ⟨b2, o2, none⟩) (hup.block b2 hl1 (by intro e; injection e with e; exact hnb e))).trans h1)
    refine h.mono ?_
    rintro e w' ⟨rfl, h1, h2⟩
    simp only [nval, Nat.mul_zero, Nat.add_zero, Nat.pow_one] at h1 ⊢
    rw [hd1] at h1
    exact ⟨rfl, h1, ((Up.refl _ _).drewN q).trans h2⟩)
  -- the words behind
  have Q2 : Hid (2 ≤ K → ∀ (b c : Nat) (L : List Value) (w1 w2 : World), Below w.heap.size w w1 → H ≤ b → L.length = c → K + 1 ≤ c → Blk w1 b 79 L → Blk w1 bz 79 L0 → (¬ bz = b → b = w.heap.size) → Up (some b) w1 w2 → Blk w2 b 79 (splice L 0 ((dgs 18446744073709551616 1 (Q + 1)).map wv)) → ∀ q, Calls Tryz.prog 66 #[.slice (some ⟨b, 1, none⟩) (K - 1) (c - 1), .slice (some ⟨bz, 1, none⟩) (K - 1) (c0 - 1), .int .u64 (((x0 + 1) / 18446744073709551616 : Nat) : Int)] (w2.drewN q)
      (VecPost b (splice L 0 ((dgs 18446744073709551616 K (Q + 1)).map wv)) ((Q + 1) / 18446744073709551616 ^ K) w1)) := Lib.hid (by
    intro h2K b c L w1 w2 hb hHb hL hc hkb hkz hfr hup hk2 q
    have hl1 : (splice L 0 ((dgs 18446744073709551616 1 (Q + 1)).map wv)).length = c := by rw [length_splice _ _ _ (by simp [dgs_length]; omega)]; exact hL
    have hld : (xs.drop 1).length = K - 1 := by rw [List.length_drop, hK]
    have hltd : ∀ u ∈ xs.drop 1, u < 18446744073709551616 := fun u hu => rx.lt u (List.mem_of_mem_drop hu)
    have h : Calls Tryz.prog 66 #[.slice (some ⟨b, 1, none⟩) (K - 1) (c - 1), .slice (some ⟨bz, 1, none⟩) (K - 1) (c0 - 1), .int .u64 (((x0 + 1) / 18446744073709551616 : Nat) : Int)] (w2.drewN q) (VecNum b (splice L 0 ((dgs 18446744073709551616 1 (Q + 1)).map wv)) 1 (K - 1) (T + (x0 + 1) / 18446744073709551616) ((T + (x0 + 1) / 18446744073709551616) / 18446744073709551616 ^ (K - 1)) (w2.drewN q)) := by
      rw [hT]
      by_cases e : bz = b
      · subst e
        obtain ⟨-, rfl⟩ := hkz.inj hkb
        exact addVW_selfNum (xs.drop 1) ((x0 + 1) / 18446744073709551616) _ bz 1 (K - 1) (c - 1) (c0 - 1) (w2.drewN q) hld hltd (by omega) (by omega) (by omega) (hk2.drewN q) (by omega) (by omega) (by omega) (fun i hi => by
          have hb1 := splice_beyond L0 ((dgs 18446744073709551616 1 (Q + 1)).map wv) 0 (1 + i) (by rw [List.length_map, dgs_length]; omega) (by rw [List.length_map, dgs_length]; omega)
          rw [Nat.zero_add] at hb1
          rw [hb1, hrow (1 + i) (by omega)]
          congr 2
          rw [List.getD_eq_getElem?_getD, List.getD_eq_getElem?_getD, List.getElem?_drop])
      · have hz2 : Blk w2 bz 79 L0 := hkz.up hup (by intro e'; injection e' with e'; exact e e')
        have hbw := hfr e
        have hbz : bz < b := by have := hk.lt; omega
        have hsl : Sl w2 b (.slice (some ⟨bz, 1, none⟩) (K - 1) (c0 - 1)) ((xs.drop 1).map wv) := hz2.sl 1 ((xs.drop 1).map wv) (K - 1) (c0 - 1) b (by rw [List.length_map, hld]) (by omega) (fun i hi => by
          rw [hrow (1 + i) (by omega), getD_map_wv _ _ (by omega)]
          congr 2
          rw [List.getD_eq_getElem?_getD, List.getD_eq_getElem?_getD, List.getElem?_drop]) (by omega) hbz
        exact addVW_any (xs.drop 1) ((x0 + 1) / 18446744073709551616) _ b 1 (K - 1) (c - 1) b _ (w2.drewN q) (hsl.drewN q) hld hltd (by omega) (by omega) (Nat.le_refl _) (by have := hk2.lt; exact Nat.le_of_lt this) (hk2.drewN q) (by omega) (by omega) (by omega)
    refine h.mono ?_
    rintro e w' ⟨rfl, h1, h2⟩
    have e2 : (Q + 1) / 18446744073709551616 ^ K = (T + (x0 + 1) / 18446744073709551616) / 18446744073709551616 ^ (K - 1) := by
      rw [← hcar, Nat.div_div_eq_div_mul]
      have e8 : (18446744073709551616 : Nat) ^ K = 18446744073709551616 * 18446744073709551616 ^ (K - 1) := by rw [← Nat.pow_succ', show (K - 1).succ = K by omega]
      rw [← e8]
    have e3 := splice_splice L 0 ((dgs 18446744073709551616 1 (Q + 1)).map wv) ((dgs 18446744073709551616 (K - 1) ((Q + 1) / 18446744073709551616)).map wv) (by simp [dgs_length]; omega)
    have e4 := dgs_append 18446744073709551616 1 (K - 1) (Q + 1)
    rw [Nat.pow_one, show 1 + (K - 1) = K by omega] at e4
    rw [Nat.zero_add, List.length_map, dgs_length, ← List.map_append, ← e4] at e3
    rw [← hcar, e3] at h1
    exact ⟨by rw [e2], h1, hup.trans (((Up.refl _ _).drewN q).trans h2)⟩)
  -- the end
  have Q3 : Hid (∀ (b c : Nat) (L : List Value) (w1 w2 : World), Below w.heap.size w w1 → H ≤ b → L.length = c → K + 1 ≤ c → c ≤ 1048576 → Up (some b) w1 w2 → Blk w2 b 79 (splice L 0 ((dgs 18446744073709551616 K (Q + 1)).map wv)) →
      (∃ v, w2.cell? ⟨b, K, none⟩ = some v) ∧ w2.frozen? ⟨b, K, none⟩ = false ∧ b < w2.heap.size ∧ Calls Tryz.prog 56 #[.slice (some ⟨b, 0, none⟩) (K + 1) c] (w2.setCell ⟨b, K, none⟩ (.int .u64 (((Q + 1) / 18446744073709551616 ^ K : Nat) : Int))) (OwPost H (Q + 1) w)) := Lib.hid (by
    intro b c L w1 w2 hb hHb hL hc hc9 hup hk2
    have hl1 : (splice L 0 ((dgs 18446744073709551616 K (Q + 1)).map wv)).length = c := by rw [length_splice _ _ _ (by simp [dgs_length]; omega)]; exact hL
    refine ⟨⟨_, hk2.cell K (by rw [hl1]; omega)⟩, hk2.free K, hk2.lt, ?_⟩
    have h2 := hk2.set K (wv ((Q + 1) / 18446744073709551616 ^ K))
    have e1 := splice_set L 0 K ((dgs 18446744073709551616 K (Q + 1)).map wv) (wv ((Q + 1) / 18446744073709551616 ^ K)) (by simp [dgs_length]) (by omega)
    rw [Nat.zero_add] at e1
    have e2 := dgs_top K (Q + 1) hS
    rw [e1] at h2
    have e5 : (dgs 18446744073709551616 K (Q + 1)).map wv ++ [wv ((Q + 1) / 18446744073709551616 ^ K)] = (dgs 18446744073709551616 (K + 1) (Q + 1)).map wv := by rw [← e2]; simp
    rw [e5] at h2
    refine (norm_own (H := H) _ h2 hL hc (by omega) hc9 hS hHb).mono ?_
    rintro e w' ⟨v, rfl, hv, rfl⟩
    have hb2 : Below H w w2 := (hb.mono hH).trans (hup.below (by have := hb.size; omega) (fun k hk => by injection hk with hk; omega))
    exact ⟨_, rfl, hv, hb2.setCell hHb _⟩)
  have HE : Hid (K = 1 → (x0 + 1) / 18446744073709551616 = (Q + 1) / 18446744073709551616 ^ K) := Lib.hid (by
    rintro rfl
    have hT0 : T = 0 := by rw [hT, List.drop_of_length_le (by omega)]; rfl
    rw [Nat.pow_one, hcar, hT0, Nat.zero_add])
  have HKZ : Hid (Blk w bz 79 L0) := Lib.hid hk
  have lo2 := lt_of_cell hone
  clear hQ hx0 hcar hd1 hS hrow hT hx0e rx hK htk hk hone
  generalize (x0 + 1) / 18446744073709551616 = k0 at *
  generalize (Q + 1) / 18446744073709551616 ^ K = k9 at *
  have hz1 : ¬ K < 1 := by omega
  have hz2 : ((K : Int) == 0) = false := by rw [beq_eq_false_iff_ne]; omega
  have hz3 : ¬ (K : Int) < 1 := by omega
  have hg1 : (1 : Int) ≤ (K : Int) := by omega
  have hg2 : (1 : Int) ≤ (c0 : Int) := by omega
  have hg3 : (1 : Int) ≤ (c2 : Int) := by omega
  by_cases h2K : 2 ≤ K
  · have hck : ¬ c0 = 1 := by omega
    have hg6 : (K : Int) ≤ (c0 : Int) := by omega
    have hg7 : (1 : Int) < (K : Int) := by omega
    go_enter Tryz.func50, Tryz.ntmps50
    go_wp2_with fail
    with_reducible refine CM.out.mono ?_
    rintro e w1 hp
    have HBL := Lib.hid hp.below
    obtain ⟨b, c, L, rfl, p1, p2, p3, p4, p5, p6⟩ := hp
    have hkz : Blk w1 bz 79 L0 := by
      rcases p6 with ⟨rfl, _⟩ | ⟨_, rfl⟩
      · exact HKZ.out
      · exact HKZ.out.alloc _
    have hfr : ¬ bz = b → b = w.heap.size := by
      intro h
      rcases p6 with ⟨_, h2⟩ | ⟨h2, _⟩
      · injection h2 with h2; injection h2 with h2; exact absurd h2 h
      · exact h2
    have hnb : ¬ b2 = b := by
      rcases p6 with ⟨_, h2⟩ | ⟨h2, _⟩
      · injection h2 with h2; injection h2 with h2; rw [← h2]; exact hb2
      · omega
    have P1 := Lib.hid (Q1.out b c L w1 HBL.out p3 p4 p1 p5 hkz hnb)
    have HK1 := Lib.hid p5
    have HKZ1 := Lib.hid hkz
    have HFR := Lib.hid hfr
    clear p5 p6 hkz hfr CM hnb
    have hg8 : (1 : Int) ≤ (c : Int) := by omega
    have hg9 : (K : Int) ≤ (c : Int) := by omega
    have hck2 : ¬ c = 1 := by omega
    go_wp2_with fail
    go_region_held3 (fun _ => True) (trivial) ((go_at_call 65; refine (P1.out _).mono ?_; rintro e w2 ⟨rfl, hk2, hu2⟩; have HK2 := Lib.hid hk2; have HU2 := Lib.hid hu2; clear hk2 hu2))
    have P2 := Lib.hid (Q2.out h2K b c L w1 w2 HBL.out p3 p4 p1 HK1.out HKZ1.out HFR.out HU2.out HK2.out)
    go_wp2_with fail
    go_region_held3 (fun _ => True) (trivial) ((go_at_call 66; refine (P2.out _).mono ?_; rintro e w3 ⟨rfl, hk3, hu3⟩; have HK3 := Lib.hid hk3; have HU3 := Lib.hid hu3; clear hk3 hu3))
    obtain ⟨⟨cv, q0⟩, q1, q1l, q2⟩ := Q3.out b c L w1 w3 HBL.out p3 p4 p1 p2 HU3.out HK3.out
    have P3 := Lib.hid q2
    clear q2
    go_wp2_with fail
    refine P3.out.mono ?_
    rintro e w4 ⟨v, rfl, h1, h2⟩
    have H1 := Lib.hid h1
    have H2 := Lib.hid h2
    clear h1 h2
    go_wp2_with fail
    go_ret
    exact ⟨_, rfl, H1.out, H2.out⟩
  · obtain rfl : K = 1 := by omega
    obtain rfl := HE.out rfl
    rw [show ((1 : Nat) : Int) + 1 = 2 from rfl] at CM
    go_enter Tryz.func50, Tryz.ntmps50
    go_wp2_with fail
    with_reducible refine CM.out.mono ?_
    rintro e w1 hp
    have HBL := Lib.hid hp.below
    obtain ⟨b, c, L, rfl, p1, p2, p3, p4, p5, p6⟩ := hp
    have hkz : Blk w1 bz 79 L0 := by
      rcases p6 with ⟨rfl, _⟩ | ⟨_, rfl⟩
      · exact HKZ.out
      · exact HKZ.out.alloc _
    have hnb : ¬ b2 = b := by
      rcases p6 with ⟨_, h2⟩ | ⟨h2, _⟩
      · injection h2 with h2; injection h2 with h2; rw [← h2]; exact hb2
      · omega
    have P1 := Lib.hid (Q1.out b c L w1 HBL.out p3 p4 p1 p5 hkz hnb)
    have HK1 := Lib.hid p5
    clear p5 p6 hkz CM hnb
    have hg8 : (1 : Int) ≤ (c : Int) := by omega
    have hck2 : ¬ c = 1 := by omega
    go_wp2_with fail
    go_region_held3 (fun _ => True) (trivial) ((go_at_call 65; refine (P1.out _).mono ?_; rintro e w2 ⟨rfl, hk2, hu2⟩; have HK2 := Lib.hid hk2; have HU2 := Lib.hid hu2; clear hk2 hu2))
    obtain ⟨⟨cv, q0⟩, q1, q1l, q2⟩ := Q3.out b c L w1 w2 HBL.out p3 p4 p1 p2 HU2.out HK2.out
    have P3 := Lib.hid q2
    clear q2
    go_wp2_with fail
    refine P3.out.mono ?_
    rintro e w4 ⟨v, rfl, h1, h2⟩
    have H1 := Lib.hid h1
    have H2 := Lib.hid h2
    clear h1 h2
    go_wp2_with fail
    go_ret
    exact ⟨_, rfl, H1.out, H2.out⟩
end Go.Proofs.YtpcnmgldmnncoaaGreatDoor
