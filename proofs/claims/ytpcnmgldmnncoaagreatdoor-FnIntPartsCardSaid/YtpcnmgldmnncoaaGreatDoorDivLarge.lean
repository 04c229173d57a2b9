/- (nat).divLarge: the division of numbers of two words and more. -/
import Derived.Test.YtpcnmgldmnncoaaGreatDoorMDbC
import Derived.Test.YtpcnmgldmnncoaaGreatDoorMVec2
import Derived.Test.YtpcnmgldmnncoaaGreatDoorDivBasic
import Derived.Test.YtpcnmgldmnncoaaGreatDoorMMul
import Derived.Test.YtpcnmgldmnncoaaGreatDoorMDiv64
namespace Go.Proofs.YtpcnmgldmnncoaaGreatDoor
open Go.RowKit Dig
set_option linter.unusedVariables false
set_option linter.unusedSimpArgs false
set_option maxRecDepth 100000

theorem alias_nil (a : Option Addr) (n c : Nat) (w : World) : Calls Tryz.prog 81 #[.slice none 0 0, .slice a n c] w fun e w' => e = .returned (.bool false) ∧ ∃ k, w' = w.drewN k := by
  go_enter Tryz.func81, Tryz.ntmps81
  go_wp2_with fail
  go_quiet (fail)
  go_wp2_with fail
  go_ret
  exact ⟨rfl, _, rfl⟩
/-- the numbers' words: the divisor's top word is not 0, the shift makes it great -/
theorem dl_math (xs ys : List Nat) (X0 V0 p m s : Nat) (rx : Rep 18446744073709551616 xs X0) (ry : Rep 18446744073709551616 ys V0) (hp : ys.length = p + 2) (hm : xs.length = m + (p + 2)) (hs : s = nz (ys.getD (p + 1) 0)) :
    ys.getD (p + 1) 0 ≠ 0 ∧ ys.getD (p + 1) 0 < 18446744073709551616 ∧ s < 64 ∧ 0 < V0 ∧ V0 * 2 ^ s < 18446744073709551616 ^ (p + 2) ∧ 9223372036854775808 ≤ V0 * 2 ^ s / 18446744073709551616 ^ (p + 1) ∧ X0 * 2 ^ s / 18446744073709551616 ^ (m + 1) < V0 * 2 ^ s ∧ X0 * 2 ^ s / 18446744073709551616 ^ (m + 1 + (p + 1)) < 9223372036854775808 ∧ X0 < 18446744073709551616 ^ (m + (p + 2)) ∧ V0 < 18446744073709551616 ^ (p + 2) := by
  have hne : ys ≠ [] := by intro h; rw [h] at hp; simp at hp
  have ht : ys.getD (p + 1) 0 ≠ 0 := by
    have := ry.nrm
    unfold Nrm at this
    rw [List.getLast?_eq_getElem?, hp] at this
    intro h
    apply this
    rw [show p + 2 - 1 = p + 1 by omega]
    rw [List.getD_eq_getElem?_getD] at h
    rcases hq : ys[p + 1]? with _ | v
    · rw [List.getElem?_eq_none_iff] at hq; omega
    · rw [hq] at h; simp at h; rw [h]
  have htl : ys.getD (p + 1) 0 < 18446744073709551616 := getD_lt ry.lt (p + 1) (by omega)
  obtain ⟨h1, h2, h3, _⟩ := nz_spec ht htl
  rw [← hs] at h1 h2 h3
  have hXl := rx.val_lt
  have hVl := ry.val_lt
  rw [hm] at hXl
  rw [hp] at hVl
  have hV : V0 = nval 18446744073709551616 (ys.take (p + 1)) + 18446744073709551616 ^ (p + 1) * ys.getD (p + 1) 0 := by
    rw [← nval_take_succ _ _ _ (by omega), List.take_of_length_le (by omega), ry.val]
  have hlo := take_lt ry.lt (p + 1)
  generalize ys.getD (p + 1) 0 = t at *
  generalize nval 18446744073709551616 (ys.take (p + 1)) = lo at *
  have hB : 0 < 18446744073709551616 ^ (p + 1) := Nat.pow_pos (by omega)
  have h2s : 0 < 2 ^ s := Nat.pow_pos (by omega)
  have e1 : V0 * 2 ^ s = lo * 2 ^ s + 18446744073709551616 ^ (p + 1) * (t * 2 ^ s) := by rw [hV, Nat.add_mul, Nat.mul_assoc]
  have hge : 18446744073709551616 ^ (p + 1) * (t * 2 ^ s) ≤ V0 * 2 ^ s := by omega
  have hlt : V0 * 2 ^ s < 18446744073709551616 ^ (p + 1) * (t * 2 ^ s + 2 ^ s) := by
    rw [Nat.mul_add, e1]
    have := Nat.mul_lt_mul_of_pos_right hlo h2s
    rw [Nat.mul_comm (18446744073709551616 ^ (p + 1)) (2 ^ s), Nat.mul_comm (2 ^ s)]
    omega
  have htop : t * 2 ^ s + 2 ^ s ≤ 18446744073709551616 := by
    have h64 : 2 ^ s * 2 ^ (64 - s) = 18446744073709551616 := by rw [← Nat.pow_add, show s + (64 - s) = 64 by omega]
    have : t < 2 ^ (64 - s) := by
      apply Nat.lt_of_mul_lt_mul_left (a := 2 ^ s)
      rw [h64, Nat.mul_comm]; exact h3
    have h5 : 2 ^ s * (t + 1) ≤ 2 ^ s * 2 ^ (64 - s) := Nat.mul_le_mul_left _ this
    rw [h64, Nat.mul_add, Nat.mul_one, Nat.mul_comm] at h5
    exact h5
  have hs63 : 2 ^ s ≤ 9223372036854775808 := by
    have : 2 ^ s ≤ 2 ^ 63 := Nat.pow_le_pow_right (by omega) (by omega)
    exact this
  have hVs : 18446744073709551616 ^ (p + 1) * 2 ^ s ≤ V0 * 2 ^ s := by
    refine Nat.le_trans ?_ hge
    apply Nat.mul_le_mul_left
    exact Nat.le_mul_of_pos_left _ (by omega)
  have hXs : X0 * 2 ^ s < 18446744073709551616 ^ (m + (p + 2)) * 2 ^ s := Nat.mul_lt_mul_of_pos_right hXl h2s
  refine ⟨ht, htl, h1, ?_, ?_, ?_, ?_, ?_, hXl, hVl⟩
  · rcases Nat.eq_zero_or_pos V0 with h | h
    · exfalso; rw [h, Nat.zero_mul] at hge
      have : 0 < 18446744073709551616 ^ (p + 1) * (t * 2 ^ s) := Nat.mul_pos hB (by omega)
      omega
    · exact h
  · refine Nat.lt_of_lt_of_le hlt ?_
    rw [show p + 2 = (p + 1) + 1 from rfl, Nat.pow_succ _ (p + 1)]
    exact Nat.mul_le_mul_left _ htop
  · rw [Nat.le_div_iff_mul_le hB]
    refine Nat.le_trans ?_ hge
    rw [Nat.mul_comm]
    exact Nat.mul_le_mul_left _ h2
  · rw [Nat.div_lt_iff_lt_mul (Nat.pow_pos (by omega))]
    refine Nat.lt_of_lt_of_le hXs ?_
    rw [show m + (p + 2) = (p + 1) + (m + 1) by omega, Nat.pow_add _ (p + 1) (m + 1), Nat.mul_right_comm]
    exact Nat.mul_le_mul_right _ hVs
  · rw [Nat.div_lt_iff_lt_mul (Nat.pow_pos (by omega)), show m + 1 + (p + 1) = m + (p + 2) by omega]
    refine Nat.lt_of_lt_of_le hXs ?_
    rw [Nat.mul_comm]
    exact Nat.mul_le_mul_right _ hs63
/-- the last word of the shifted dividend is laid -/
theorem dl_row {W : World} {b n X : Nat} {L : List Value} (hk : Blk W b 79 (splice L 0 ((dgs 18446744073709551616 n X).map wv))) (hn : n + 1 ≤ L.length) (hX : X / 18446744073709551616 ^ n < 18446744073709551616) : Blk (W.setCell ⟨b, n, none⟩ (.int .u64 ((X / 18446744073709551616 ^ n : Nat) : Int))) b 79 (splice L 0 ((dgs 18446744073709551616 (n + 1) X).map wv)) := by
  have h := hk.set n (wv (X / 18446744073709551616 ^ n))
  have e := splice_set L 0 n ((dgs 18446744073709551616 n X).map wv) (wv (X / 18446744073709551616 ^ n)) (by simp [dgs_length]) (by omega)
  rw [Nat.zero_add] at e
  rw [e] at h
  rw [dgs_snoc, Nat.mod_eq_of_lt hX, List.map_append]
  exact h
/-- behind the shift: the dividend's row, the divisor's words -/
structure DlMid (H S l' N X p V bu gh oh cU : Nat) (og' : Option Nat) (Lh : List Value) (w wx : World) : Prop where
  u : Blk wx bu 79 (splice (zs (.int .u64 0) cU) 0 ((dgs 18446744073709551616 N X).map wv))
  v : ∃ Lv, Blk wx gh 79 Lv ∧ Rd wx gh oh ((dgs 18446744073709551616 (p + 2) V).map wv)
  s : Stk wx H S l' og'
  b : Below H w wx
/-- what a long division leaves -/
def DlPost (H S Q R : Nat) (w : World) (e : Ending) (w' : World) : Prop := ∃ q r, e = .returned (.tuple #[q, r]) ∧ Ow w' H q Q ∧ Ow w' H r R ∧ (∃ l' og', Stk w' H S l' og') ∧ Below H w w'
set_option maxHeartbeats 3200000 in
theorem divLarge_any (xs ys : List Nat) (X0 V0 S H : Nat) (x y : Value) (w : World) (rx : Rep 18446744073709551616 xs X0) (ry : Rep 18446744073709551616 ys V0) (hx : Sl w H x (xs.map wv)) (hy : Sl w H y (ys.map wv))
    (hS : Stk w H S 0 none) (hHw : H ≤ w.heap.size) (h2 : 2 ≤ ys.length) (hle : ys.length ≤ xs.length) (hxl : xs.length ≤ 600) (hy40 : ys.length < 40) (hgl : 0 < H) (hthr : w.cell? ⟨0, 0, none⟩ = some (.int .i64 40)) :
    Calls Tryz.prog 64 #[.slice none 0 0, .pointer (some ⟨S, 0, none⟩), .slice none 0 0, x, y] w (DlPost H S (X0 / V0) (X0 % V0) w) := by
  obtain ⟨p, hp⟩ : ∃ p, ys.length = p + 2 := ⟨ys.length - 2, by omega⟩
  obtain ⟨m, hm⟩ : ∃ m, xs.length = m + (p + 2) := ⟨xs.length - (p + 2), by omega⟩
  obtain ⟨s, hs⟩ : ∃ s, s = nz (ys.getD (p + 1) 0) := ⟨_, rfl⟩
  obtain ⟨ht0, htl, hs64, hV0, hVn, htop, hX, hXu, hXl, hVl⟩ := dl_math xs ys X0 V0 p m s rx ry hp hm hs
  obtain ⟨a1, c1, rfl, hc1, hr1⟩ := id hx
  obtain ⟨a2, c2, rfl, hc2, hr2⟩ := id hy
  obtain ⟨N, hN⟩ : ∃ N, N = m + (p + 2) := ⟨_, rfl⟩
  rw [← hN] at hm
  simp only [List.length_map, hp, hm] at hx hy hc1 hc2 ⊢
  obtain ⟨b2, o2, rfl, hb2, hnn, q2⟩ := hy.word (p + 1) (by omega)
  clear hnn
  have CSV := Lib.hid (save_any w H S 0 none hS)
  have CNZ := Lib.hid (fun W => nlz_any (ys.getD (p + 1) 0) W ht0 htl)
  rw [← hs] at CNZ
  have CN : Hid (∀ q, Calls Tryz.prog 79 #[.pointer (some ⟨S, 0, none⟩), .int .i64 ((p + 2 : Nat) : Int)] (w.drewN q) (SnPost H S 0 (p + 2) none (w.drewN q))) := Lib.hid (fun q => stkNat_any (w.drewN q) H S 0 (p + 2) none (hS.drewN q) (by omega) (by omega) (by omega) hHw)
  rw [show ((p + 2 : Nat) : Int) = (p : Int) + 2 by omega] at CN
  have lq2 := lt_of_cell q2
  have HX := Lib.hid hx
  have HY := Lib.hid hy
  have HP := Lib.hid hp
  have HM := Lib.hid hm
  have HMA := Lib.hid (And.intro hV0 (And.intro hVn (And.intro htop (And.intro hX (And.intro hXu (And.intro hXl hVl))))))
  have HS := Lib.hid hS
  have HRX := Lib.hid rx
  have HRY := Lib.hid ry
  have e1 : ((p + 2 : Nat) : Int) = (p : Int) + 2 := by omega
  have e2 : (N : Int) - ((p : Int) + 2) = (m : Int) := by omega
  have hp38 : p < 38 := by omega
  have hm600 : N ≤ 600 := by omega
  have HN := Lib.hid hN
  have i1 : (0 : Int) ≤ (p : Int) := by omega
  have i2 : (p : Int) + 2 - 1 = ((p + 1 : Nat) : Int) := by omega
  have i3 : ((p + 1 : Nat) : Int) < (p : Int) + 2 := by omega
  obtain ⟨t, ht⟩ : ∃ t, t = ys.getD (p + 1) 0 := ⟨_, rfl⟩
  rw [← ht] at q2 CNZ
  clear hx hy hp hm hs ht0 htl hV0 hVn htop hX hXu hXl hVl hS rx ry h2 hle hxl hy40 hr1 hr2 ht hN
  go_enter_defers Tryz.func64, Tryz.ntmps64
  go_wp2_with fail
  with_reducible refine CSV.out.mono ?_
  rintro e w' ⟨rfl, q0, rfl⟩
  clear CSV
  go_wp2_with fail
  with_reducible refine (CNZ.out _).mono ?_
  rintro e w' ⟨rfl, rfl⟩
  clear CNZ
  go_wp2_with fail
  with_reducible refine (CN.out _).mono ?_
  rintro e w2 ⟨gh, oh, ch, Lh, l', og', rfl, hch, hHg, hgh, hoh, hs2, hl1, hl2, hb2, hfr, hfo, hog⟩
  have CMU := Lib.hid (fun W => make_any (N + 1) W (by omega) (by omega))
  rw [show ((N + 1 : Nat) : Int) = (N : Int) + 1 by omega] at CMU
  clear CN
  have HGH := Lib.hid hgh
  have HS2 := Lib.hid hs2
  have HB2 : Hid (Below H w w2) := Lib.hid ((below_drewN (Below.refl _ _) q0).trans hb2)
  clear hgh hs2 hb2 hfr hfo
  go_wp2_with fail
  with_reducible refine (CMU.out _).mono ?_
  rintro e w3 ⟨cU, hcU1, hcU2, rfl, hw3⟩
  obtain ⟨bu, hbu⟩ : ∃ bu, bu = w2.heap.size := ⟨_, rfl⟩
  have hgl2 : gh < bu := by rw [hbu]; exact HGH.out.lt
  have hHu : H ≤ bu := by omega
  have hzl : (zs (.int .u64 0) cU).length = cU := zs_length _ _
  have HB3 : Hid (Below H w w3) := Lib.hid (by rw [hw3]; exact HB2.out.alloc (by have := HB2.out.size; omega) _)
  have HU3 : Hid (Blk w3 bu 79 (zs (.int .u64 0) cU)) := Lib.hid (by rw [hw3, hbu]; exact Blk.new w2 _ _)
  have HH3 : Hid (Blk w3 gh 79 Lh) := Lib.hid (by rw [hw3]; exact HGH.out.alloc _)
  have HS3 : Hid (Stk w3 H S l' og') := Lib.hid (by rw [hw3]; exact HS2.out.below ((Below.refl _ w2).alloc (Nat.le_refl _) _))
  rw [← hbu]
  clear HGH HS2 HB2 hw3 CMU hbu
  have hH3 : H ≤ w3.heap.size := by have := HB3.out.size; omega
  have HX3 := Lib.hid (HX.out.below HB3.out)
  have HY3 := Lib.hid (HY.out.below HB3.out)
  go_upto_if 40 with fail
  obtain ⟨T, hT⟩ : ∃ T, T = ((s : Int) == (0 : Int)) := ⟨_, rfl⟩
  rw [← hT]
  go_cut [] from 41 to 68 (fun wx => DlMid H S l' (N + 1) (X0 * 2 ^ s) p (V0 * 2 ^ s) bu gh oh cU og' Lh w wx)
  case first =>
    cases T
    · have hs0 : 0 < s := by
        rcases Nat.eq_zero_or_pos s with h | h
        · exfalso; rw [h] at hT; simp at hT
        · exact h
      clear hT
      have CL1 := Lib.hid (lshVU_any ys s Lh gh oh (p + 2) ch H (.slice (some ⟨b2, o2, none⟩) (p + 2 : Nat) c2) w3 HY3.out HP.out (by omega) hch HRY.out.lt hs0 hs64 hHg hH3 HH3.out hoh (by omega))
      rw [HRY.out.val] at CL1
      go_wp2_with fail
      with_reducible refine CL1.out.mono ?_
      rintro e w4 ⟨rfl, hk4, hu4⟩
      have HK4 := Lib.hid hk4
      have HU4 : Hid (Blk w4 bu 79 (zs (.int .u64 0) cU)) := Lib.hid (HU3.out.up hu4 (by intro e; injection e with e; omega))
      have HX4 := Lib.hid (HX3.out.up hu4 hH3 hHg)
      have HS4 := Lib.hid (HS3.out.write HH3.out hk4 (by rw [length_splice _ _ _ (by simp [dgs_length]; omega)]) hu4)
      have HB4 : Hid (Below H w w4) := Lib.hid (up_below_of HB3.out hHw hHg hu4)
      have hH4 : H ≤ w4.heap.size := by have := HB4.out.size; omega
      clear hk4 hu4 CL1
      with_reducible generalize V0 * 2 ^ s / 18446744073709551616 ^ (p + 2) = car1
      have CL2 := Lib.hid (lshVU_any xs s (zs (.int .u64 0) cU) bu 0 N cU H (.slice a1 N c1) w4 HX4.out HM.out (by omega) (by omega) HRX.out.lt hs0 hs64 hHu hH4 HU4.out (by omega) (by omega))
      rw [HRX.out.val] at CL2
      obtain ⟨car, hcar⟩ : ∃ car, car = X0 * 2 ^ s / 18446744073709551616 ^ N := ⟨_, rfl⟩
      rw [← hcar] at CL2
      have HCAR := Lib.hid hcar
      clear hcar
      have g1 : (N : Int) ≤ (cU : Int) := by omega
      have g3 : (N : Int) < (N : Int) + 1 := by omega
      have g4 : (0 : Int) ≤ (N : Int) := by omega
      go_wp2_with fail
      with_reducible refine CL2.out.mono ?_
      rintro e w5 ⟨rfl, hk5, hu5⟩
      have c5 := hk5.cell N (by rw [length_splice _ _ _ (by simp [dgs_length]; omega)]; omega)
      have f5 := hk5.free N
      have l5 := hk5.lt
      generalize (splice (zs (.int .u64 0) cU) 0 ((dgs 18446744073709551616 N (X0 * 2 ^ s)).map wv)).getD N undef = cv5 at c5
      have HK5 := Lib.hid hk5
      have HU5 := Lib.hid hu5
      clear hk5 hu5 CL2
      go_wp2_with fail
      go_meet
      have hXN : X0 * 2 ^ s / 18446744073709551616 ^ N < 9223372036854775808 := by
        have := HMA.out.2.2.2.2.1
        rw [show m + 1 + (p + 1) = N by have := HN.out; omega] at this
        exact this
      have hk6 := dl_row HK5.out (by omega) (by omega)
      rw [← HCAR.out] at hk6
      have hup : Up (some bu) w4 (w5.setCell ⟨bu, N, none⟩ (.int .u64 (car : Int))) := HU5.out.set _ _
      refine ⟨hk6, ⟨_, HK4.out.up hup (by intro e; injection e with e; omega), ?_⟩, HS4.out.write HU4.out hk6 (by rw [length_splice _ _ _ (by simp [dgs_length]; omega)]) hup, up_below_of HB4.out hHw hHu hup⟩
      refine Rd.up (b := gh) ?_ hup HK4.out.lt (by intro e; injection e with e; omega)
      exact HK4.out.rd (by rw [length_splice _ _ _ (by simp [dgs_length]; omega)]; simp [dgs_length]; omega) (fun i hi => splice_getD _ _ _ (by simp [dgs_length]; omega) i hi)
    · have hs0 : s = 0 := by
        rcases Nat.eq_zero_or_pos s with h | h
        · exact h
        · exfalso
          have : ((s : Int) == (0 : Int)) = false := by rw [beq_eq_false_iff_ne]; omega
          rw [this] at hT; cases hT
      clear hT
      obtain ⟨cs1, hcs1⟩ : ∃ cs1, cs1 = ys.map wv := ⟨_, rfl⟩
      obtain ⟨cs2, hcs2⟩ : ∃ cs2, cs2 = xs.map wv := ⟨_, rfl⟩
      have hl1 : cs1.length = p + 2 := by rw [hcs1, List.length_map]; exact HP.out
      have hl2 : cs2.length = N := by rw [hcs2, List.length_map]; exact HM.out
      have P1 := Lib.hid (show cs1.length = Nat.min (p + 2) (p + 2) by rw [hl1]; simp)
      have P2 : Hid (0 < cs1.length → some (⟨gh, oh, none⟩ : Addr) = some ⟨gh, oh, none⟩ ∧ ∃ ad, some (⟨b2, o2, none⟩ : Addr) = some ad ∧ ∀ j v, cs1[j]? = some v → w3.cell? (ad.add j) = some v) := Lib.hid (fun h => ⟨rfl, by rw [hcs1] at h ⊢; exact HY3.out.src h⟩)
      have P3 := Lib.hid (show oh + cs1.length ≤ Lh.length by omega)
      have P4 : Hid (∀ u ∈ cs1, u.oneCell' = true) := Lib.hid (by rw [hcs1]; exact oneCell_wv ys)
      have Q1 := Lib.hid (show cs2.length = Nat.min N N by rw [hl2]; simp)
      have Q3 := Lib.hid (show 0 + cs2.length ≤ (zs (.int .u64 0) cU).length by omega)
      have Q4 : Hid (∀ u ∈ cs2, u.oneCell' = true) := Lib.hid (by rw [hcs2]; exact oneCell_wv xs)
      have HC1 := Lib.hid hcs1
      have HC2 := Lib.hid hcs2
      have HL1 := Lib.hid hl1
      have HL2 := Lib.hid hl2
      have HS0 := Lib.hid hs0
      clear hcs1 hcs2 hl1 hl2 hs0
      have g1 : (N : Int) ≤ (cU : Int) := by omega
      have g3 : (N : Int) < (N : Int) + 1 := by omega
      have g4 : (0 : Int) ≤ (N : Int) := by omega
      go_upto_region 9 with (refine wpList_copy_up (o := ⟨some 43, _, _, _, _, _⟩) rfl (.tmp 41) (.tmp 42) 53 53 rfl 79 Tryz.underlying53 (by kernel_rfl) _ _ _ _ _ _ rfl rfl gh oh Lh 79 HH3.out cs1 P1.out P2.out P3.out P4.out w3 (Up.refl _ _) ?_; intro w4 hk4 hu4)
      have HU4 : Hid (Blk w4 bu 79 (zs (.int .u64 0) cU)) := Lib.hid (HU3.out.up hu4.out (by intro e; injection e with e; omega))
      have HX4 := Lib.hid (HX3.out.up hu4.out hH3 hHg)
      have HS4 := Lib.hid (HS3.out.write HH3.out hk4.out (by rw [length_splice _ _ _ (by have := HL1.out; omega)]) hu4.out)
      have HB4 : Hid (Below H w w4) := Lib.hid (up_below_of HB3.out hHw hHg hu4.out)
      have Q2 : Hid (0 < cs2.length → some (⟨bu, 0, none⟩ : Addr) = some ⟨bu, 0, none⟩ ∧ ∃ ad, a1 = some ad ∧ ∀ j v, cs2[j]? = some v → w4.cell? (ad.add j) = some v) := Lib.hid (fun h => ⟨rfl, by have := HC2.out; subst this; exact HX4.out.src h⟩)
      go_wp2_with (refine wpList_copy_up (o := ⟨some 49, _, _, _, _, _⟩) rfl (.tmp 47) (.tmp 48) 53 53 rfl 79 Tryz.underlying53 (by kernel_rfl) _ _ _ _ _ _ rfl rfl bu 0 (zs (.int .u64 0) cU) 79 HU4.out cs2 Q1.out Q2.out Q3.out Q4.out w4 (Up.refl _ _) ?_; intro w5 hk5 hu5; have c5 := hk5.out.cell N (by rw [length_splice _ _ _ (by have := HL2.out; omega)]; omega); have f5 := hk5.out.free N; have l5 := hk5.out.lt)
      go_meet
      have hd1 : dgs 18446744073709551616 (p + 2) V0 = ys := by rw [← HRY.out.val, ← HP.out]; exact dgs_nval _ (by omega) _ HRY.out.lt
      have hd2 : dgs 18446744073709551616 N X0 = xs := by rw [← HRX.out.val, ← HM.out]; exact dgs_nval _ (by omega) _ HRX.out.lt
      have hX0 : X0 / 18446744073709551616 ^ N = 0 := Nat.div_eq_of_lt (by rw [← HRX.out.val, ← HM.out]; exact nval_lt _ _ HRX.out.lt)
      have hk5' := hk5.out
      rw [HC2.out, ← hd2] at hk5'
      have hk6 := dl_row hk5' (by omega) (by omega)
      rw [hX0] at hk6
      have hup : Up (some bu) w4 (w5.setCell ⟨bu, N, none⟩ (.int .u64 0)) := hu5.out.set _ _
      have hk4' := hk4.out
      rw [HC1.out, ← hd1] at hk4'
      rw [HS0.out, Nat.pow_zero, Nat.mul_one, Nat.mul_one]
      refine ⟨hk6, ⟨_, hk4'.up hup (by intro e; injection e with e; omega), ?_⟩, HS4.out.write HU4.out hk6 (by rw [length_splice _ _ _ (by simp [dgs_length]; omega)]) hup, up_below_of HB4.out hHw hHu hup⟩
      refine Rd.up (b := gh) ?_ hup hk4'.lt (by intro e; injection e with e; omega)
      exact hk4'.rd (by rw [length_splice _ _ _ (by simp [dgs_length]; omega)]; simp [dgs_length]; omega) (fun i hi => splice_getD _ _ _ (by simp [dgs_length]; omega) i hi)
  obtain ⟨hcu, ⟨Lv, hcv, hcr⟩, hcs, hcb⟩ := hcut
  have HCU := Lib.hid hcu
  have HCV := Lib.hid hcv
  have HCR := Lib.hid hcr
  have HCS := Lib.hid hcs
  have HCB := Lib.hid hcb
  clear hcu hcv hcr hcs hcb hT HB3 HU3 HH3 HS3 hH3 HX3 HY3
  have CAL := Lib.hid (fun W => alias_nil (some ⟨bu, 0, none⟩) (N + 1) cU W)
  have CMQ := Lib.hid (fun W => make_any (m + 1) W (by omega) (by omega))
  rw [show ((m + 1 : Nat) : Int) = (m : Int) + 1 by omega] at CMQ
  go_wp2_with fail
  with_reducible refine (CAL.out _).mono ?_
  rintro e w' ⟨rfl, q3, rfl⟩
  clear CAL
  go_wp2_with fail
  with_reducible refine (CMQ.out _).mono ?_
  rintro e w7 ⟨cq, hcq1, hcq2, rfl, hw7⟩
  clear CMQ
  obtain ⟨bq, hbq⟩ : ∃ bq, bq = wc.heap.size := ⟨_, rfl⟩
  have hbq' : (wc.drewN q3).heap.size = bq := hbq.symm
  rw [hbq']
  have hHc : H ≤ wc.heap.size := by have := HCB.out.size; omega
  have hHq : H ≤ bq := by omega
  have hul : bu < wc.heap.size := HCU.out.lt
  have hgl3 : gh < wc.heap.size := HCV.out.lt
  have HB7 : Hid (Below H w w7) := Lib.hid (by rw [hw7]; exact (below_drewN HCB.out q3).alloc (by have := HCB.out.size; exact hHc) _)
  have HQ7 : Hid (Blk w7 bq 79 (zs (.int .u64 0) cq)) := Lib.hid (by rw [hw7, hbq]; exact Blk.new (wc.drewN q3) _ _)
  have HU7 : Hid (Blk w7 bu 79 (splice (zs (.int .u64 0) cU) 0 ((dgs 18446744073709551616 (m + 1 + (p + 2)) (X0 * 2 ^ s)).map wv))) := Lib.hid (by rw [hw7, show m + 1 + (p + 2) = N + 1 by have := HN.out; omega]; exact (HCU.out.drewN q3).alloc _)
  have HV7 : Hid (Blk w7 gh 79 Lv) := Lib.hid (by rw [hw7]; exact (HCV.out.drewN q3).alloc _)
  have HR7 : Hid (Rd w7 gh oh ((dgs 18446744073709551616 (p + 2) (V0 * 2 ^ s)).map wv)) := Lib.hid (by
    rw [hw7]
    exact HCR.out.below ((below_drewN (Below.refl _ _) q3).alloc (Nat.le_refl _) _) hgl3)
  have HS7 : Hid (Stk w7 H S l' og') := Lib.hid (by rw [hw7]; exact HCS.out.below ((below_drewN (Below.refl _ _) q3).alloc (Nat.le_refl _) _))
  have thr7 : w7.cell? ⟨0, 0, none⟩ = some (.int .i64 40) := (HB7.out.cell (p := ⟨0, 0, none⟩) hgl).trans hthr
  have lt7 : 0 < w7.heap.size := by have := HB7.out.size; omega
  have hzq : (zs (.int .u64 0) cq).length = cq := zs_length _ _
  have CDB := Lib.hid (divBasic_any H S l' p (m + 1) (X0 * 2 ^ s) (V0 * 2 ^ s) bq cq bu cU gh oh ch og' (zs (.int .u64 0) cq) (zs (.int .u64 0) cU) Lv w7 (by omega) (by have := HN.out; omega) (Nat.mul_pos HMA.out.1 (Nat.pow_pos (by omega))) HMA.out.2.1 HMA.out.2.2.1 HMA.out.2.2.2.1 HMA.out.2.2.2.2.1 HQ7.out (by omega) (by omega) HU7.out (by have := HN.out; omega) (by have := HN.out; omega) HV7.out HR7.out hch (by omega) (by omega) (by omega) HS7.out (by omega)
    (by rcases hog with h | ⟨h, _⟩ <;> rw [h] <;> simp <;> omega) (by rcases hog with h | ⟨h, _⟩ <;> rw [h] <;> simp <;> omega)
    (by
      rcases hog with h | ⟨h, h'⟩
      · intro e; rw [h] at e; cases e
      · exact fun _ => h') hHq hHu (by have := HB7.out.size; omega))
  rw [show m + 1 + (p + 2) = N + 1 by have := HN.out; omega] at CDB
  have hp40 : (p : Int) + 2 < 40 := by omega
  have hbqu : bq ≠ bu := by omega
  clear hbq hbq' hw7 HCU HCV HCR HCS HCB HU7 HQ7 HV7 HR7 HS7
  go_wp2_with fail
  with_reducible refine CDB.out.mono ?_
  rintro e w8 ⟨rfl, ⟨l8, og8, hs8⟩, hq8, hu8, hb8⟩
  rw [Nat.mul_div_mul_right _ _ (Nat.pow_pos (by omega))] at hq8
  rw [Nat.mul_mod_mul_right] at hu8
  have HS8 := Lib.hid hs8
  have HQ8 := Lib.hid hq8
  have HU8 := Lib.hid hu8
  have HB8 : Hid (Below H w w8) := Lib.hid (HB7.out.trans hb8)
  have CNQ := Lib.hid (norm_any (dgs 18446744073709551616 (m + 1) (X0 / V0)) (some ⟨bq, 0, none⟩) cq _ w8 (Ow.sl_row hq8 hzq (by omega)) (dgs_lt _ (by omega) _ _) (by rw [dgs_length]; omega))
  rw [dgs_length] at CNQ
  clear hs8 hq8 hu8 hb8 CDB HB7
  obtain ⟨kq, hkq⟩ : ∃ kq, kq = (strip (dgs 18446744073709551616 (m + 1) (X0 / V0))).length := ⟨_, rfl⟩
  rw [← hkq] at CNQ
  have HKQ := Lib.hid hkq
  clear hkq
  go_wp2_with fail
  with_reducible refine CNQ.out.mono ?_
  rintro e w' ⟨rfl, rfl⟩
  clear CNQ thr7 lt7 hp40
  have hRB : X0 % V0 * 2 ^ s < 18446744073709551616 ^ (N + 1) := by
    have h1 : X0 % V0 * 2 ^ s ≤ V0 * 2 ^ s := Nat.mul_le_mul_right _ (Nat.le_of_lt (Nat.mod_lt _ HMA.out.1))
    have h2 : (18446744073709551616 : Nat) ^ (p + 2) ≤ 18446744073709551616 ^ (N + 1) := Nat.pow_le_pow_right (by omega) (by have := HN.out; omega)
    have := HMA.out.2.1
    omega
  have hR1 : X0 % V0 < 18446744073709551616 ^ (N + 1) := by
    have h1 : X0 % V0 * 1 ≤ X0 % V0 * 2 ^ s := Nat.mul_le_mul_left _ (Nat.pow_pos (by omega))
    omega
  have HRB := Lib.hid hRB
  have HR1 := Lib.hid hR1
  clear hRB hR1
  have hul8 : bu < w8.heap.size := HU8.out.lt
  go_upto_if 92 with fail
  obtain ⟨T2, hT2⟩ : ∃ T2, T2 = ((s : Int) != (0 : Int)) := ⟨_, rfl⟩
  rw [← hT2]
  go_cut [] from 93 to 96 (fun wx => (∃ LU, LU.length = cU ∧ Blk wx bu 79 (splice LU 0 ((dgs 18446744073709551616 (N + 1) (X0 % V0)).map wv))) ∧ Blk wx bq 79 (splice (zs (.int .u64 0) cq) 0 ((dgs 18446744073709551616 (m + 1) (X0 / V0)).map wv)) ∧ (∃ l9 og9, Stk wx H S l9 og9) ∧ Below H w wx)
  case first =>
    cases T2
    · have hs0 : s = 0 := by
        rcases Nat.eq_zero_or_pos s with h | h
        · exact h
        · exfalso
          have : ((s : Int) != (0 : Int)) = true := by rw [bne_iff_ne]; omega
          rw [this] at hT2; cases hT2
      have HS0 := Lib.hid hs0
      clear hT2 hs0
      go_wp2_with fail
      go_meet
      have := HU8.out
      rw [HS0.out, Nat.pow_zero, Nat.mul_one] at this
      exact ⟨⟨_, hzl, this⟩, HQ8.out, ⟨_, _, HS8.out⟩, HB8.out⟩
    · have hs0 : 0 < s := by
        rcases Nat.eq_zero_or_pos s with h | h
        · exfalso; rw [h] at hT2; simp at hT2
        · exact h
      clear hT2
      have hlU : (splice (zs (.int .u64 0) cU) 0 ((dgs 18446744073709551616 (N + 1) (X0 % V0 * 2 ^ s)).map wv)).length = cU := by rw [length_splice _ _ _ (by simp [dgs_length]; omega)]; exact hzl
      have CR := Lib.hid (rshVU_any (dgs 18446744073709551616 (N + 1) (X0 % V0 * 2 ^ s)) s (splice (zs (.int .u64 0) cU) 0 ((dgs 18446744073709551616 (N + 1) (X0 % V0 * 2 ^ s)).map wv)) bu 0 (N + 1) cU cU bu 0 w8 (dgs_length _ _ _) (by omega) (by omega) (dgs_lt _ (by omega) _ _) hs0 hs64 (by omega) HU8.out (by omega) (by omega) (fun wr k j hkj hj hb hu => by
        refine ⟨?_, hb.lt⟩
        rw [hb.cell (0 + j) (by rw [length_splice _ _ _ (by simp [dgs_length, hlU]; omega), hlU]; omega), splice_beyond _ _ 0 j (by simp [dgs_length]; exact hkj) (by simp [dgs_length, hlU]; omega), splice_getD _ _ _ (by simp [dgs_length]; omega) j (by simp [dgs_length]; exact hj), getD_map_wv _ _ (by rw [dgs_length]; exact hj)]))
      rw [dgs_val_of _ _ _ HRB.out, Nat.mul_div_cancel _ (Nat.pow_pos (by omega))] at CR
      go_wp2_with fail
      with_reducible refine CR.out.mono ?_
      rintro e w9 ⟨cc, rfl, hk9, hu9⟩
      have HK9 := Lib.hid hk9
      have HU9 := Lib.hid hu9
      clear hk9 hu9 CR
      go_wp2_with fail
      go_meet
      exact ⟨⟨_, hlU, HK9.out⟩, HQ8.out.up HU9.out (by intro e; injection e with e; omega), ⟨_, _, HS8.out.write HU8.out HK9.out (by rw [length_splice _ _ _ (by simp [dgs_length, hlU]; omega)]) HU9.out⟩, up_below_of HB8.out hHw hHu HU9.out⟩
  obtain ⟨⟨LU, hLU, hcu⟩, hcq, ⟨l9, og9, hcs⟩, hcb⟩ := hcut
  have HCQ := Lib.hid hcq
  have HCS := Lib.hid hcs
  have HCB := Lib.hid hcb
  have HCU := Lib.hid hcu
  have CNU := Lib.hid (norm_any (dgs 18446744073709551616 (N + 1) (X0 % V0)) (some ⟨bu, 0, none⟩) cU _ _ (Ow.sl_row hcu hLU (by omega)) (dgs_lt _ (by omega) _ _) (by rw [dgs_length]; omega))
  rw [dgs_length] at CNU
  obtain ⟨ku, hku⟩ : ∃ ku, ku = (strip (dgs 18446744073709551616 (N + 1) (X0 % V0))).length := ⟨_, rfl⟩
  rw [← hku] at CNU
  have HKU := Lib.hid hku
  clear hku hcq hcs hcb hcu hT2 HS8 HQ8 HU8 HB8 hul8
  go_wp2_with fail
  with_reducible refine CNU.out.mono ?_
  rintro e w' ⟨rfl, rfl⟩
  clear CNU
  go_wp2_with fail
  refine leaves_cons (f := 76) (args := #[.pointer (some ⟨S, 0, none⟩), .int .i64 ((0 : Nat) : Int)]) (by simp) (by kernel_rfl) ?_
  refine (restore_deferred .returning _ H S l9 0 og9 HCS.out (by omega)).mono ?_
  rintro e u' w'' ⟨rfl, rfl, h1, h2, h3⟩
  have hQB : X0 / V0 < 18446744073709551616 ^ (m + 1) := by
    have hx := HMA.out.2.2.2.1
    rw [Nat.div_lt_iff_lt_mul (Nat.pow_pos (by omega)), Nat.mul_right_comm] at hx
    rw [Nat.div_lt_iff_lt_mul HMA.out.1, Nat.mul_comm]
    exact Nat.lt_of_mul_lt_mul_right hx
  refine ⟨.tuple #[.slice (some ⟨bq, 0, none⟩) kq cq, .slice (some ⟨bu, 0, none⟩) ku cU], ?_, _, _, rfl, ?_, ?_, ⟨0, og9, h1⟩, HCB.out.trans h2⟩
  · simp [results, Tryz.results64, go_sem]
  · rw [HKQ.out]
    exact (Ow.of_row HCQ.out hzq (by omega) (by omega) (by omega) hQB hHq).rows h3
  · rw [HKU.out]
    exact (Ow.of_row HCU.out hLU (by omega) (by omega) (by omega) HR1.out hHu).rows h3
end Go.Proofs.YtpcnmgldmnncoaaGreatDoor
