/- basicMul: the product word by word. -/
import Derived.Test.YtpcnmgldmnncoaaGreatDoorAddMul
import Derived.Test.YtpcnmgldmnncoaaGreatDoorMDb
import Derived.Test.YtpcnmgldmnncoaaGreatDoorMNew
import Derived.Lib.SliceRun
namespace Go.Proofs.YtpcnmgldmnncoaaGreatDoor
open Go.RowKit Dig
set_option linter.unusedVariables false
set_option linter.unusedSimpArgs false
set_option maxRecDepth 100000

theorem splice_cons (L : List Value) (o : Nat) (v : Value) (vs : List Value) (h : o + 1 + vs.length ≤ L.length) : splice (L.set o v) (o + 1) vs = splice L o (v :: vs) := by
  have h1 := splice_set L o 0 [] v rfl (by omega)
  rw [splice_nil, Nat.add_zero] at h1
  rw [h1]
  have h2 := splice_splice L o [v] vs (by simp; omega)
  simpa using h2
theorem blk_setCells (b : Nat) : ∀ (vs : List Value) (o : Nat) (w : World) (L : List Value), Blk w b 79 L → o + vs.length ≤ L.length → Blk (w.setCells b o vs) b 79 (splice L o vs) ∧ Up (some b) w (w.setCells b o vs)
  | [], o, w, L, h, _ => ⟨by rw [splice_nil]; exact h, Up.refl _ _⟩
  | v :: vs, o, w, L, h, hl => by
    obtain ⟨h1, h2⟩ := blk_setCells b vs (o + 1) (w.setCell ⟨b, o, none⟩ v) (L.set o v) (h.set o v) (by simp at hl ⊢; omega)
    refine ⟨?_, ((Up.refl _ w).set o v).trans h2⟩
    have h3 : Blk (w.setCells b o (v :: vs)) b 79 (splice (L.set o v) (o + 1) vs) := h1
    rw [splice_cons _ _ _ _ (by simp at hl; omega)] at h3
    exact h3
/-- the row of the product when one more word of the second number is worked in -/
theorem bm_row (L : List Value) (N P i m X d : Nat) (hL : N ≤ L.length) (hi : i + (m + 1) ≤ N) (hX : X < 18446744073709551616 ^ m) (hd : d < 18446744073709551616) (hP : P / 18446744073709551616 ^ i < 18446744073709551616 ^ m) :
    (splice (splice L 0 ((dgs 18446744073709551616 N P).map wv)) i ((dgs 18446744073709551616 m (P / 18446744073709551616 ^ i + X * d)).map wv)).set (i + m) (.int .u64 (((P / 18446744073709551616 ^ i + X * d) / 18446744073709551616 ^ m : Nat) : Int)) = splice L 0 ((dgs 18446744073709551616 N (P + 18446744073709551616 ^ i * (X * d))).map wv) := by
  obtain ⟨U, hU⟩ : ∃ U, U = P / 18446744073709551616 ^ i := ⟨_, rfl⟩
  obtain ⟨W, hW⟩ : ∃ W, W = U + X * d := ⟨_, rfl⟩
  rw [← hU] at hP ⊢
  rw [← hW]
  have hm0 : 0 < (18446744073709551616 : Nat) ^ m := Nat.pow_pos (by omega)
  have hWl : W < 18446744073709551616 ^ (m + 1) := by
    have h1 : X * d ≤ (18446744073709551616 ^ m - 1) * 18446744073709551615 := Nat.mul_le_mul (by omega) (by omega)
    rw [Nat.pow_succ, hW]
    obtain ⟨Q, hQ⟩ : ∃ Q, 18446744073709551616 ^ m = Q + 1 := ⟨18446744073709551616 ^ m - 1, by omega⟩
    rw [hQ, Nat.add_sub_cancel] at h1
    rw [hQ] at hP ⊢
    omega
  have hl : (splice L 0 ((dgs 18446744073709551616 N P).map wv)).length = L.length := length_splice _ _ _ (by simp [dgs_length]; omega)
  have hs := splice_set (splice L 0 ((dgs 18446744073709551616 N P).map wv)) i m ((dgs 18446744073709551616 m W).map wv) (wv (W / 18446744073709551616 ^ m)) (by simp [dgs_length]) (by omega)
  refine hs.trans ?_
  have e1 : (dgs 18446744073709551616 m W).map wv ++ [wv (W / 18446744073709551616 ^ m)] = (dgs 18446744073709551616 (m + 1) W).map wv := by
    rw [dgs_snoc, Nat.mod_eq_of_lt (by rw [Nat.div_lt_iff_lt_mul hm0, Nat.mul_comm, ← Nat.pow_succ]; exact hWl)]; simp
  rw [e1, splice_in _ _ _ _ (by simp [dgs_length]; omega) (by simp [dgs_length]; omega)]
  congr 1
  have hPs : P = P % 18446744073709551616 ^ i + 18446744073709551616 ^ i * U := by rw [hU]; have := Nat.div_add_mod P (18446744073709551616 ^ i); omega
  have hm1 : U < 18446744073709551616 ^ (m + 1) := Nat.lt_of_lt_of_le hP (Nat.pow_le_pow_right (by omega) (by omega))
  have h := dgs_splice 18446744073709551616 N i (m + 1) (P % 18446744073709551616 ^ i) U W (by omega) hi (Nat.mod_lt _ (Nat.pow_pos (by omega))) hm1 hWl
  rw [← hPs] at h
  have e2 : P % 18446744073709551616 ^ i + 18446744073709551616 ^ i * W = P + 18446744073709551616 ^ i * (X * d) := by rw [hW, Nat.mul_add]; omega
  rw [e2] at h
  rw [← h]
  simp [List.map_append, List.map_take, List.map_drop, dgs_length]
theorem dgs_zero (B N : Nat) : dgs B N 0 = List.replicate N 0 := by
  induction N with
  | zero => rfl
  | succ n ih => simp [dgs, ih, List.replicate_succ]
theorem take_mul (xs ys : List Nat) (k : Nat) (hk : k < ys.length) : nval 18446744073709551616 xs * nval 18446744073709551616 (ys.take (k + 1)) = nval 18446744073709551616 xs * nval 18446744073709551616 (ys.take k) + 18446744073709551616 ^ k * (nval 18446744073709551616 xs * ys.getD k 0) := by
  rw [nval_take_succ _ _ _ hk, Nat.mul_add, Nat.mul_left_comm]
theorem part_lt {xs ys : List Nat} {m : Nat} (hx : ∀ x ∈ xs, x < 18446744073709551616) (hy : ∀ x ∈ ys, x < 18446744073709551616) (lx : xs.length = m) (k : Nat) : nval 18446744073709551616 xs * nval 18446744073709551616 (ys.take k) / 18446744073709551616 ^ k < 18446744073709551616 ^ m := by
  rw [Nat.div_lt_iff_lt_mul (Nat.pow_pos (by omega))]
  have h1 := nval_lt _ xs hx
  rw [lx] at h1
  have h2 := take_lt hy k
  rcases Nat.eq_zero_or_pos (nval 18446744073709551616 (ys.take k)) with h | h
  · rw [h, Nat.mul_zero]; exact Nat.mul_pos (Nat.pow_pos (by omega)) (Nat.pow_pos (by omega))
  · exact Nat.mul_lt_mul_of_lt_of_le h1 (Nat.le_of_lt h2) (by omega)
set_option maxHeartbeats 3200000 in
theorem basicMul_any (xs ys : List Nat) (L : List Value) (b m n N cz c1 c2 b1 o1 b2 o2 : Nat) (w : World) (lx : xs.length = m) (ly : ys.length = n) (hN : N = m + n) (hm0 : 0 < m) (hn0 : 0 < n) (hcz : N ≤ cz) (hc1 : m ≤ c1) (hc2 : n ≤ c2) (hxs : ∀ x ∈ xs, x < 18446744073709551616) (hys : ∀ x ∈ ys, x < 18446744073709551616)
    (hk : Blk w b 79 L) (hL : N ≤ L.length) (hl : N ≤ 1000000) (hne1 : b1 ≠ b) (hne2 : b2 ≠ b) (hr1 : ∀ i, i < m → w.cell? ⟨b1, o1 + i, none⟩ = some (.int .u64 ((xs.getD i 0 : Nat) : Int))) (hr2 : ∀ i, i < n → w.cell? ⟨b2, o2 + i, none⟩ = some (.int .u64 ((ys.getD i 0 : Nat) : Int))) :
    Calls Tryz.prog 90 #[.slice (some ⟨b, 0, none⟩) N cz, .slice (some ⟨b1, o1, none⟩) m c1, .slice (some ⟨b2, o2, none⟩) n c2] w
      (fun e w' => e = .returned (.tuple #[]) ∧ Blk w' b 79 (splice L 0 ((dgs 18446744073709551616 N (nval 18446744073709551616 xs * nval 18446744073709551616 ys)).map wv)) ∧ Up (some b) w w') := by
  have hcl := fun (ty : TypeId) => Lib.run_clear_slice (P := Tryz.prog) w 53 79 ty (.int .u64 0) Tryz.underlying53 Tryz.zeroValue79 rfl rfl b 0 N cz (by omega) (fun j hj => by rw [Nat.zero_add, hk.cell j (by omega)]; rfl) (fun j hj => hk.free _)
  obtain ⟨hs1, hs2⟩ := blk_setCells b (List.replicate N (.int .u64 0)) 0 w L hk (by simp; omega)
  have hz : (List.replicate N (.int .u64 0) : List Value) = (dgs 18446744073709551616 N 0).map wv := by rw [dgs_zero]; simp [wv]
  obtain ⟨w1, hw1⟩ : ∃ w1, w1 = w.setCells b 0 (List.replicate N (.int .u64 0)) := ⟨_, rfl⟩
  rw [← hw1] at hs1 hs2
  rw [hz] at hs1
  simp only [← hw1] at hcl
  have HS1 := Lib.hid hs1
  have HS2 := Lib.hid hs2
  have H1 := Lib.hid hxs
  have H2 := Lib.hid hys
  have R1 := Lib.hid hr1
  have R2 := Lib.hid hr2
  have LX := Lib.hid lx
  have LY := Lib.hid ly
  have HN := Lib.hid hN
  have e1 : (m : Int) + (n : Int) = (N : Int) := by omega
  have g1 : (N : Int) ≤ (cz : Int) := by omega
  have g2 : (0 : Int) ≤ (N : Int) := by omega
  clear hs1 hs2 hxs hys hr1 hr2 lx ly hN hk hz hw1
  go_enter Tryz.func90, Tryz.ntmps90
  go_wp2_with fail
  go_loopw [17] (fun i wr => ∃ k : Nat, k ≤ n ∧ i = .int .i64 k ∧ Hid (Blk wr b 79 (splice L 0 ((dgs 18446744073709551616 N (nval 18446744073709551616 xs * nval 18446744073709551616 (ys.take k))).map wv))) ∧ Hid (Up (some b) w wr)) (fun i _ => n - (intOf i).toNat)
  case atStart => exact ⟨0, Nat.zero_le _, rfl, Lib.hid (by simpa [nval] using HS1.out), HS2⟩
  case round =>
    obtain ⟨k, hkn, rfl, hb, hu⟩ := hrel
    by_cases hlt : k < n
    · have hq2 := R2.out k hlt
      have lb0 := lt_of_cell hq2
      have q2 : wr.cell? ⟨b2, o2 + k, none⟩ = some (.int .u64 ((ys.getD k 0 : Nat) : Int)) := (World.cell?_of_block (a := ⟨b2, o2 + k, none⟩) (hu.out.block b2 lb0 (by intro e; injection e with e; exact hne2 e))).trans hq2
      have lb2 := lt_of_cell q2
      have htm := take_mul xs ys k (by rw [LY.out]; exact hlt)
      have hd := getD_lt H2.out k (by rw [LY.out]; exact hlt)
      have hPl := part_lt H1.out H2.out LX.out k
      have hXl := nval_lt _ xs H1.out
      rw [LX.out] at hXl
      have hi0 : (0 : Int) ≤ (k : Int) := by omega
      have hi1 : (k : Int) < (n : Int) := by omega
      clear hq2
      generalize ys.getD k 0 = d at *
      by_cases hd0 : d = 0
      · subst hd0
        rw [Nat.mul_zero, Nat.mul_zero, Nat.add_zero] at htm
        have HTM := Lib.hid htm
        clear htm hd hPl hXl
        go_wp2_with fail
        refine ⟨⟨k + 1, by omega, by go_num, Lib.hid ?_, hu⟩, by simp [intOf]; omega⟩
        rw [HTM.out]; exact hb.out
      · obtain ⟨P, hP⟩ : ∃ P, P = nval 18446744073709551616 xs * nval 18446744073709551616 (ys.take k) := ⟨_, rfl⟩
        rw [← hP] at htm hPl
        have hbP := hb.out
        rw [← hP] at hbP
        have hlS : (splice L 0 ((dgs 18446744073709551616 N P).map wv)).length = L.length := length_splice _ _ _ (by simp [dgs_length]; omega)
        have hNN := HN.out
        have CA : Hid (∀ q, Calls Tryz.prog 115 #[.slice (some ⟨b, k, none⟩) m (cz - k), .slice (some ⟨b, k, none⟩) m (cz - k), .slice (some ⟨b1, o1, none⟩) m c1, .int .u64 (d : Nat), .int .u64 0] (wr.drewN q) (VecPost b (splice (splice L 0 ((dgs 18446744073709551616 N P).map wv)) k ((dgs 18446744073709551616 m (P / 18446744073709551616 ^ k + nval 18446744073709551616 xs * d)).map wv)) ((P / 18446744073709551616 ^ k + nval 18446744073709551616 xs * d) / 18446744073709551616 ^ m) (wr.drewN q))) := Lib.hid (fun q => by
          have h := addMulVVWW_any (dgs 18446744073709551616 m (P / 18446744073709551616 ^ k)) xs d (splice L 0 ((dgs 18446744073709551616 N P).map wv)) b k m (cz - k) (cz - k) c1 b1 o1 (wr.drewN q) (dgs_length _ _ _) LX.out (by omega) hc1 (dgs_lt _ (by omega) _ _) H1.out hd (hbP.drewN q) (by omega) (by omega) (fun i hi => by
            have h1 := row_word L 0 N P (k + i) (by omega) (by omega)
            rw [Nat.zero_add] at h1
            rw [h1, dgs_get _ _ _ _ hi, Nat.div_div_eq_div_mul, ← Nat.pow_add]) hne1 (fun i hi => by
            have h1 := R1.out i hi
            have h2 := lt_of_cell h1
            exact (World.cell?_of_block (a := ⟨b1, o1 + i, none⟩) (hu.out.block b1 h2 (by intro e; injection e with e; exact hne1 e))).trans h1)
          rw [dgs_val_of _ _ _ hPl] at h
          exact h)
        have hbm := bm_row L N P k m (nval 18446744073709551616 xs) d hL (by omega) hXl hd hPl
        rw [← htm] at hbm
        have HBM := Lib.hid hbm
        obtain ⟨K2, hK2⟩ : ∃ K2, K2 = k + m := ⟨_, rfl⟩
        have t1 : IntKind.i64.wrap ((k : Int) + (m : Int)) = (K2 : Int) := by rw [IntKind.wrap_i64]; omega
        have t2 : (K2 : Int) ≤ (cz : Int) := by omega
        have t3 : (0 : Int) ≤ (K2 : Int) := by omega
        have t4 : k ≤ K2 := by omega
        have t5 : K2 - k = m := by omega
        have t6 : IntKind.i64.wrap (K2 : Int) = (K2 : Int) := by rw [IntKind.wrap_i64]; omega
        have t7 : ¬ cz = k := by omega
        have t8 : (m : Int) + (k : Int) = (K2 : Int) := by omega
        have t9 : (K2 : Int) < (N : Int) := by omega
        have tb : ((d : Int) != 0) = true := by rw [bne_iff_ne]; omega
        have HK2 := Lib.hid hK2
        have HLS := Lib.hid hlS
        obtain ⟨U, hU⟩ : ∃ U, U = P / 18446744073709551616 ^ k + nval 18446744073709551616 xs * d := ⟨_, rfl⟩
        rw [← hU] at CA HBM
        have hK2L : K2 < L.length := by omega
        clear htm hd hPl hXl hP hbP hbm hK2 hlS hNN hU hd0 lb0
        obtain ⟨cr, hcr⟩ : ∃ cr, cr = U / 18446744073709551616 ^ m := ⟨_, rfl⟩
        rw [← hcr] at CA HBM
        clear hcr
        go_wp2_with fail
        go_region_held3 (fun _ => True) (trivial) ((go_at_call 115; refine (CA.out _).mono ?_; rintro e w5 ⟨rfl, hk5, hu5⟩; have c5 := hk5.cell K2 (by rw [length_splice _ _ _ (by rw [HLS.out]; simp [dgs_length]; have := HK2.out; omega), HLS.out]; exact hK2L); have f5 := hk5.free K2; have l5 := hk5.lt; have HK5 := Lib.hid hk5; have HU5 := Lib.hid hu5; clear hk5 hu5))
        go_wp2_with fail
        refine ⟨⟨k + 1, by omega, by go_num, Lib.hid ?_, Lib.hid ((hu.out.trans (((Up.refl _ wr).drewN _).trans HU5.out)).set _ _)⟩, by simp [intOf]; omega⟩
        have h := HK5.out.set K2 (.int .u64 (cr : Int))
        have hbm := HBM.out
        rw [← HK2.out] at hbm
        rw [hbm] at h
        exact h
    · obtain rfl : k = n := by omega
      go_wp2_with fail
      go_end0
      refine ⟨rfl, ?_, hu.out⟩
      have := hb.out
      rw [List.take_of_length_le (by rw [LY.out]; omega)] at this
      exact this
end Go.Proofs.YtpcnmgldmnncoaaGreatDoor
