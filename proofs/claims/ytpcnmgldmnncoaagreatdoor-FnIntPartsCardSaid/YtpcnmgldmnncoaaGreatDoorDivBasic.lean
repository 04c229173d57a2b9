/- (nat).divBasic: Knuth's division over words. -/
import Derived.Test.YtpcnmgldmnncoaaGreatDoorMDbC
namespace Go.Proofs.YtpcnmgldmnncoaaGreatDoor
open Go.RowKit Dig
set_option linter.unusedVariables false
set_option linter.unusedSimpArgs false
set_option maxRecDepth 100000

set_option maxHeartbeats 3200000 in
theorem divBasic_any (H S l p M X V bq cq bu cu bv ov cv : Nat) (og : Option Nat) (Lq Lu Lv : List Value) (w : World)
    (hM : 1 ≤ M) (hN : M + (p + 2) ≤ 900) (hV0 : 0 < V) (hVn : V < 18446744073709551616 ^ (p + 2)) (htop : 9223372036854775808 ≤ V / 18446744073709551616 ^ (p + 1)) (hX : X / 18446744073709551616 ^ M < V) (hXu : X / 18446744073709551616 ^ (M + (p + 1)) < 9223372036854775808)
    (hq : Blk w bq 79 Lq) (hLq : M ≤ Lq.length) (hcq : M ≤ cq) (hu : Blk w bu 79 (splice Lu 0 ((dgs 18446744073709551616 (M + (p + 2)) X).map wv))) (hLu : M + (p + 2) ≤ Lu.length) (hcu : M + (p + 2) ≤ cu)
    (hv : Blk w bv 79 Lv) (hvr : Rd w bv ov ((dgs 18446744073709551616 (p + 2) V).map wv)) (hcv : p + 2 ≤ cv) (n1 : bq ≠ bu) (n2 : bv ≠ bu) (n3 : bv ≠ bq)
    (hs : Stk w H S l og) (hl : l ≤ 900) (o1 : og ≠ some bu) (o2 : og ≠ some bq) (o3 : og = some bv → ov + (p + 2) ≤ l) (hHq : H ≤ bq) (hHu : H ≤ bu) (hHw : H ≤ w.heap.size) :
    Calls Tryz.prog 82 #[.slice (some ⟨bq, 0, none⟩) M cq, .pointer (some ⟨S, 0, none⟩), .slice (some ⟨bu, 0, none⟩) (M + (p + 2) : Nat) cu, .slice (some ⟨bv, ov, none⟩) (p + 2 : Nat) cv] w (DbPost H S M (M + (p + 2)) X V bq bu Lq Lu w) := by
  have CS := Lib.hid (save_any w H S l og hs)
  have CN : Hid (∀ q, Calls Tryz.prog 79 #[.pointer (some ⟨S, 0, none⟩), .int .i64 ((p + 3 : Nat) : Int)] (w.drewN q) (SnPost H S l (p + 3) og (w.drewN q))) := Lib.hid (fun q => stkNat_any (w.drewN q) H S l (p + 3) og (hs.drewN q) (by omega) (by omega) (by omega) hHw)
  have CR := Lib.hid (fun W => recip_any (V / 18446744073709551616 ^ (p + 1)) W (by omega) (by rw [Nat.div_lt_iff_lt_mul (Nat.pow_pos (by omega)), Nat.mul_comm, ← Nat.pow_succ]; exact hVn))
  have e1 : ((p + 2 : Nat) : Int) = (p : Int) + 2 := by omega
  have e3 : ((p + 3 : Nat) : Int) = (p : Int) + 2 + 1 := by omega
  have e2 : ((M + (p + 2) : Nat) : Int) = (M : Int) + ((p : Int) + 2) := by omega
  rw [e3] at CN
  have hLs : (splice Lu 0 ((dgs 18446744073709551616 (M + (p + 2)) X).map wv)).length = Lu.length := length_splice _ _ _ (by simp [dgs_length]; omega)
  have vcell : ∀ (W : World), Rd W bv ov ((dgs 18446744073709551616 (p + 2) V).map wv) → ∀ i, i < p + 2 → W.cell? ⟨bv, ov + i, none⟩ = some (.int .u64 ((V / 18446744073709551616 ^ i % 18446744073709551616 : Nat) : Int)) := fun W h i hi => by
    have := h i (by simp [dgs_length]; exact hi)
    rw [getD_map_wv _ _ (by rw [dgs_length]; exact hi), dgs_get _ _ _ _ hi] at this
    exact this
  have VC := Lib.hid vcell
  have hvn1m : V / 18446744073709551616 ^ (p + 1) % 18446744073709551616 = V / 18446744073709551616 ^ (p + 1) := Nat.mod_eq_of_lt (by rw [Nat.div_lt_iff_lt_mul (Nat.pow_pos (by omega)), Nat.mul_comm, ← Nat.pow_succ]; exact hVn)
  have VM := Lib.hid hvn1m
  have HTOP := Lib.hid htop
  have HXX := Lib.hid hX
  have HXU := Lib.hid hXu
  have HVN := Lib.hid hVn
  have hvlt := hv.lt
  clear hvn1m vcell
  have HQ := Lib.hid hq
  have HU := Lib.hid hu
  have HV := Lib.hid hv
  have HVR := Lib.hid hvr
  have HS := Lib.hid hs
  clear hq hu hv hvr hs hVn htop hX hXu
  generalize hvn1 : V / 18446744073709551616 ^ (p + 1) = vn1 at *
  have HVD := Lib.hid hvn1
  clear hvn1
  go_enter_defers Tryz.func82, Tryz.ntmps82
  go_wp2_with fail
  with_reducible refine CS.out.mono ?_
  rintro e w' ⟨rfl, q0, rfl⟩
  go_wp2_with fail
  with_reducible refine (CN.out _).mono ?_
  rintro e w2 ⟨gh, oh, ch, Lh, l', og', rfl, hch, hHg, hgh, hoh, hs2, hl1, hl2, hb2, hfr, hfo, hog⟩
  have HQ2 : Hid (Blk w2 bq 79 Lq ∧ bq ≠ gh) := Lib.hid ⟨(hfr bq _ HQ.out o2).2, (hfr bq _ HQ.out o2).1⟩
  have HU2 : Hid (Blk w2 bu 79 (splice Lu 0 ((dgs 18446744073709551616 (M + (p + 2)) X).map wv)) ∧ bu ≠ gh) := Lib.hid ⟨(hfr bu _ HU.out o1).2, (hfr bu _ HU.out o1).1⟩
  have HV2 : Hid (Rd w2 bv ov ((dgs 18446744073709551616 (p + 2) V).map wv) ∧ (bv = gh → ov + (p + 2) ≤ oh)) := Lib.hid (by
    by_cases e : og = some bv
    · have ho := o3 e
      refine ⟨fun i hi => (hfo bv (ov + i) _ e (by simp [dgs_length] at hi; omega) (HVR.out i hi)).1, fun e2 => ?_⟩
      have := (hfo bv (ov + 0) _ e (by omega) (HVR.out 0 (by simp [dgs_length]))).2 e2
      omega
    · have := hfr bv _ HV.out e
      exact ⟨HVR.out.keep fun i _ => World.cell?_of_block (a := ⟨bv, ov + i, none⟩) (this.2.trans HV.out.symm), fun e2 => absurd e2 this.1⟩)
  have HG2 := Lib.hid hgh
  have HS2 := Lib.hid hs2
  have HB2 : Hid (Below H w w2) := Lib.hid ((below_drewN (Below.refl _ _) q0).trans hb2)
  clear hgh hs2 hb2 hfr hfo CN CS HQ HU HVR HS HV
  have c0 := VC.out w2 HV2.out.1 (p + 1) (by omega)
  have l0 := lt_of_cell c0
  rw [HVD.out, VM.out] at c0
  clear hvlt
  have i0 : (0 : Int) ≤ (p : Int) := by omega
  have i1 : (p : Int) + 1 < (p : Int) + 2 := by omega
  have i2 : (p : Int) + 2 - 1 = ((p + 1 : Nat) : Int) := by omega
  go_wp2_with fail
  with_reducible refine (CR.out _).mono ?_
  rintro e w3 ⟨rfl, q1, rfl⟩
  clear CR
  go_wp2_with fail
  go_loopw [13, 14] (fun u j wr => ∃ k : Nat, k ≤ M + 1 ∧ j = .int .i64 ((k : Int) - 1) ∧ u = .int .u64 ((X / 18446744073709551616 ^ k % V / 18446744073709551616 ^ (p + 1) : Nat) : Int) ∧ Hid (DbRel H S l p M X V bq bu bv ov gh oh Lh.length Lq Lu w k wr)) (fun _ j _ => (intOf j + 1).toNat)
  case atStart =>
    have h0 : X / 18446744073709551616 ^ (M + 1) < V / 18446744073709551616 + 1 := by
      rw [Nat.pow_succ, ← Nat.div_div_eq_div_mul]
      have := Nat.div_le_div_right (c := 18446744073709551616) (Nat.le_of_lt HXX.out)
      omega
    have hV1 : X / 18446744073709551616 ^ (M + 1) < V := by
      rw [Nat.pow_succ, ← Nat.div_div_eq_div_mul]
      exact Nat.lt_of_le_of_lt (Nat.div_le_self _ _) HXX.out
    refine ⟨M + 1, Nat.le_refl _, by go_num, ?_, Lib.hid ⟨?_, ?_, HV2.out.1, ⟨Lh, HG2.out.drewN q1, rfl⟩, ⟨l', og', hl1, HS2.out.drewN q1⟩, below_drewN HB2.out q1⟩⟩
    · have : X / 18446744073709551616 ^ (M + 1) % V / 18446744073709551616 ^ (p + 1) = 0 := by
        rw [Nat.mod_eq_of_lt hV1]
        apply Nat.div_eq_of_lt
        have h2 : V / 18446744073709551616 < 18446744073709551616 ^ (p + 1) := by
          rw [Nat.div_lt_iff_lt_mul (by omega), ← Nat.pow_succ]; exact HVN.out
        omega
      rw [this]; rfl
    · rw [show M - (M + 1) = 0 by omega]
      simpa [dgs, splice_nil] using HQ2.out.1.drewN q1
    · rw [yk_start X V (M + 1) hV1]
      exact HU2.out.1.drewN q1
  have HU2N : Hid (¬ bu = gh) := Lib.hid HU2.out.2
  have HQ2N : Hid (¬ bq = gh) := Lib.hid HQ2.out.2
  clear HQ2 HU2 HG2 HS2 HB2 c0 l0 i1 i2
  obtain ⟨k, hkM, rfl, rfl, hrel⟩ := hrel
  by_cases hk0 : 0 < k
  · obtain ⟨j, rfl⟩ : ∃ j, k = j + 1 := ⟨k - 1, by omega⟩
    have ej : (((j + 1 : Nat) : Int) - 1) = (j : Int) := by omega
    rw [ej, ujn_eq X V j p]
    clear ej
    have hr3 := rd3_of X V j p hV0 HVN.out
    obtain ⟨hd1, hd2, hd3, hd4⟩ := ur_div X V j hV0
    rw [HVD.out] at hr3
    have hut : (splice Lu 0 ((dgs 18446744073709551616 (M + (p + 2)) (yk X V (j + 1))).map wv)).length = Lu.length := length_splice _ _ _ (by simp [dgs_length]; omega)
    have cu1 := hrel.out.u.cell (j + (p + 1)) (by rw [hut]; omega)
    rw [row_get Lu (M + (p + 2)) X V j (p + 1) hLu (by omega)] at cu1
    have cu2 := hrel.out.u.cell (j + p) (by rw [hut]; omega)
    rw [row_get Lu (M + (p + 2)) X V j p hLu (by omega)] at cu2
    have lu := hrel.out.u.lt
    have cv2 := VC.out wr hrel.out.v p (by omega)
    have lv := lt_of_cell cv2
    have hUw : ur X V j / 18446744073709551616 ^ (p + 2) < 18446744073709551616 := by
      have := hr3.hle
      have h2 : vn1 < 18446744073709551616 := by have := VM.out; omega
      omega
    have b1 : ur X V j / 18446744073709551616 ^ (p + 1) % 18446744073709551616 < 18446744073709551616 := Nat.mod_lt _ (by omega)
    have b2 : ur X V j / 18446744073709551616 ^ p % 18446744073709551616 < 18446744073709551616 := Nat.mod_lt _ (by omega)
    have b3 : V / 18446744073709551616 ^ p % 18446744073709551616 < 18446744073709551616 := Nat.mod_lt _ (by omega)
    have HR3 := Lib.hid hr3
    have hujn : ur X V j / 18446744073709551616 ^ (p + 2) ≤ vn1 := hr3.hle
    have HD := Lib.hid (And.intro hd1 (And.intro hd2 (And.intro hd3 hd4)))
    clear hr3 hd1 hd2 hd3 hd4 hut
    with_reducible generalize ur X V j / 18446744073709551616 ^ (p + 2) = ujn at *
    with_reducible generalize ur X V j / 18446744073709551616 ^ (p + 1) % 18446744073709551616 = u1 at *
    with_reducible generalize ur X V j / 18446744073709551616 ^ p % 18446744073709551616 = u2 at *
    with_reducible generalize V / 18446744073709551616 ^ p % 18446744073709551616 = vn2 at *
    have hvb : vn1 < 18446744073709551616 := by have := VM.out; omega
    have hv0 : 0 < vn1 := by have := HTOP.out; omega
    have VCX := VC
    have GI := Lib.hid (Gi.start (W := 18446744073709551616 ^ p) (B := 18446744073709551616) (vn1 := vn1) (V := V) (U := ur X V j) (N := ujn * 18446744073709551616 + u1) (u2 := u2) (Nat.pow_pos (by omega)) hv0 (Nat.le_trans (Nat.mul_le_mul_right _ (Nat.le_add_right _ vn2)) HR3.out.hV2) b2 HR3.out.hU)
    have CDW : Hid (¬ ujn = vn1 → ∀ W, Calls Tryz.prog 99 #[.int .u64 (ujn : Int), .int .u64 (u1 : Int), .int .u64 (vn1 : Int), .int .u64 (rcp (vn1 * 2 ^ nz vn1) : Int)] W (TwoPost ((ujn * 18446744073709551616 + u1) / vn1) ((ujn * 18446744073709551616 + u1) % vn1) W)) := Lib.hid (fun hne W => divWW_any ujn u1 vn1 W (by omega) hvb (by omega) b1)
    have GTOP : Hid (ujn = vn1 → 18446744073709551615 * V < ur X V j + V) := Lib.hid (fun he => rd_top 18446744073709551616 _ _ V vn1 vn2 u1 u2 HR3.out.hV2 HR3.out.hV (by rw [← he]; exact HR3.out.hU2) (by have := HTOP.out; omega) b3)
    have hjn1 : (j : Int) + ((p : Int) + 2) - 1 = ((j + (p + 1) : Nat) : Int) := by omega
    have hjn2 : (j : Int) + ((p : Int) + 2) - 2 = ((j + p : Nat) : Int) := by omega
    have hpn2 : (p : Int) + 2 - 2 = (p : Int) := by omega
    have hj0 : (0 : Int) ≤ (j : Int) := by omega
    go_upto_if 51 with fail
    obtain ⟨T, hT⟩ : ∃ T, T = ((ujn : Int) != (vn1 : Int)) := ⟨_, rfl⟩
    rw [← hT]
    go_cut [15, 16, 17, 18, 19, 20] from 52 to 104 (fun x15 x16 x17 x18 x19 x20 wx => ∃ g q2 : Nat, x15 = .int .u64 (g : Int) ∧ g < 18446744073709551616 ∧ g * V < ur X V j + V ∧ ur X V j < (g + 1) * V ∧ wx = wr.drewN q2)
    case first =>
      cases T
      · have he : ujn = vn1 := by
          by_cases h : ujn = vn1
          · exact h
          · exfalso
            have : ((ujn : Int) != (vn1 : Int)) = true := by rw [bne_iff_ne]; omega
            rw [this] at hT; cases hT
        clear hT
        go_wp2_with fail
        go_meet
        exact ⟨18446744073709551615, 0, rfl, by omega, GTOP.out he, HD.out.2.2.2, rfl⟩
      · have he : ¬ ujn = vn1 := by
          intro h
          have : ((ujn : Int) != (vn1 : Int)) = false := by rw [h]; simp
          rw [this] at hT; cases hT
        have CDV := Lib.hid (CDW.out he)
        have hqg : (ujn * 18446744073709551616 + u1) / vn1 < 18446744073709551616 := by
          rw [Nat.div_lt_iff_lt_mul hv0]
          have : (ujn + 1) * 18446744073709551616 ≤ vn1 * 18446744073709551616 := Nat.mul_le_mul_right _ (by omega)
          rw [Nat.mul_comm 18446744073709551616 vn1]
          rw [Nat.add_mul, Nat.one_mul] at this
          omega
        have hrg : (ujn * 18446744073709551616 + u1) % vn1 < 18446744073709551616 := Nat.lt_trans (Nat.mod_lt _ hv0) hvb
        have GI0 := GI
        clear hT he CDW GTOP GI
        with_reducible generalize (ujn * 18446744073709551616 + u1) / vn1 = g0 at *
        with_reducible generalize (ujn * 18446744073709551616 + u1) % vn1 = r0 at *
        have CMW := Lib.hid (fun W => mulWW_any g0 vn2 hqg b3 W)
        generalize hp1 : g0 * vn2 / 18446744073709551616 = p1 at *
        generalize hp0 : g0 * vn2 % 18446744073709551616 = p0 at *
        have HP := Lib.hid (And.intro hp1 hp0)
        clear hp1 hp0
        go_wp2_with fail
        with_reducible refine (CDV.out _).mono ?_
        rintro e w' ⟨rfl, rfl⟩
        clear CDV
        go_wp2_with fail
        with_reducible refine (CMW.out _).mono ?_
        rintro e w' ⟨rfl, rfl⟩
        clear CMW
        go_wp2_with fail
        go_loopw [15, 16, 18, 19] (fun x15 x16 x18 x19 W => ∃ g rr : Nat, x15 = .int .u64 (g : Int) ∧ x16 = .int .u64 (rr : Int) ∧ rr < 18446744073709551616 ∧ g < 18446744073709551616 ∧ x18 = .int .u64 ((g * vn2 / 18446744073709551616 : Nat) : Int) ∧ x19 = .int .u64 ((g * vn2 % 18446744073709551616 : Nat) : Int) ∧ Hid (Gi vn1 (ujn * 18446744073709551616 + u1) (ur X V j) V g rr) ∧ W = wr) (fun x15 _ _ _ _ => (intOf x15).toNat)
        case atStart => exact ⟨g0, r0, rfl, rfl, hrg, hqg, by rw [HP.out.1], by rw [HP.out.2], GI0, rfl⟩
        clear GI0 HP hqg hrg
        obtain ⟨g, rr, rfl, rfl, hrr, hgB, rfl, rfl, hgi, rfl⟩ := hrel
        have CG := Lib.hid (fun W => greater_any (g * vn2 / 18446744073709551616) (g * vn2 % 18446744073709551616) rr u2 W)
        have hgt := gt_words (g * vn2) rr u2 b2
        have hlw := less_words (g * vn2) vn2 b3
        have hbig : 18446744073709551616 * 18446744073709551616 ^ p ≤ V := by
          have h1 := HR3.out.hV2
          have h2 : 18446744073709551616 * 18446744073709551616 ^ p ≤ (vn1 * 18446744073709551616 + vn2) * 18446744073709551616 ^ p := Nat.mul_le_mul_right _ (by omega)
          omega
        by_cases hc : rr * 18446744073709551616 + u2 < g * vn2
        · have hT : decide (rr < g * vn2 / 18446744073709551616 ∨ rr = g * vn2 / 18446744073709551616 ∧ u2 < g * vn2 % 18446744073709551616) = true := decide_eq_true (hgt.2 hc)
          rw [hT] at CG
          obtain ⟨hg0, hn⟩ := hgi.out.next HR3.out.hV2 HR3.out.hU hc
          have hvg : vn2 ≤ g * vn2 := Nat.le_mul_of_pos_left _ hg0
          have hgs : (g - 1) * vn2 = g * vn2 - vn2 := by rw [Nat.sub_mul, Nat.one_mul]
          have hlw := hlw hvg
          rw [← hgs] at hlw
          obtain ⟨g1, hg1⟩ : ∃ g1, g1 = g - 1 := ⟨_, rfl⟩
          rw [← hg1] at hlw hn
          have w1 : IntKind.u64.wrap ((g : Int) - 1) = (g1 : Int) := by rw [IntKind.wrap_u64]; omega
          have hg1B : g1 < 18446744073709551616 := by omega
          have hgm : g1 < g := by omega
          have HN := Lib.hid hn
          have HGI := hgi
          clear hgt hT hvg hgs hn hg0 hgi hg1
          have HLW := Lib.hid hlw
          have HBIG := Lib.hid hbig
          clear hlw hbig
          by_cases hov : rr + vn1 < 18446744073709551616
          · obtain ⟨rr2, hrr2⟩ : ∃ rr2, rr2 = rr + vn1 := ⟨_, rfl⟩
            have w2 : IntKind.u64.wrap ((rr : Int) + (vn1 : Int)) = (rr2 : Int) := by rw [IntKind.wrap_u64]; omega
            have l2 : ¬ (rr2 : Int) < (vn1 : Int) := by omega
            have hr2 : rr2 < 18446744073709551616 := by omega
            have HN2 := HN
            rw [← hrr2] at HN2
            clear HN hov hrr2 hc hrr HGI
            obtain ⟨c1, hc1⟩ : ∃ c1, c1 = g1 * vn2 / 18446744073709551616 := ⟨_, rfl⟩
            obtain ⟨c0, hc0⟩ : ∃ c0, c0 = g1 * vn2 % 18446744073709551616 := ⟨_, rfl⟩
            rw [← hc1, ← hc0] at HLW
            have HC := Lib.hid (And.intro hc1 hc0)
            have hc0B : c0 < 18446744073709551616 := by rw [hc0]; exact Nat.mod_lt _ (by omega)
            clear hc1 hc0
            have ha1 : g * vn2 / 18446744073709551616 < 18446744073709551616 := by
              rw [Nat.div_lt_iff_lt_mul (by omega)]
              have h1 : g * vn2 ≤ g * 18446744073709551616 := Nat.mul_le_mul_left _ (Nat.le_of_lt b3)
              have h2 : g * 18446744073709551616 < 18446744073709551616 * 18446744073709551616 := Nat.mul_lt_mul_of_pos_right hgB (by omega)
              omega
            have ha0 : g * vn2 % 18446744073709551616 < 18446744073709551616 := Nat.mod_lt _ (by omega)
            with_reducible generalize g * vn2 / 18446744073709551616 = a1 at *
            with_reducible generalize g * vn2 % 18446744073709551616 = a0 at *
            by_cases hlt : a0 < vn2
            · obtain ⟨k1, k2, k3⟩ := HLW.out.1 hlt
              have w3 : IntKind.u64.wrap ((a1 : Int) - 1) = (c1 : Int) := by rw [IntKind.wrap_u64]; omega
              have w4 : IntKind.u64.wrap ((a0 : Int) - (vn2 : Int)) = (c0 : Int) := by rw [IntKind.wrap_u64]; omega
              have l4 : (a0 : Int) < (vn2 : Int) := by omega
              clear k1 k2 k3 hlt ha1 ha0
              clear HLW
              go_wp2_with fail
              with_reducible refine (CG.out _).mono ?_
              rintro e w' ⟨rfl, rfl⟩
              clear CG
              go_wp2_with fail
              refine ⟨⟨g1, rr2, rfl, rfl, hr2, hg1B, by rw [HC.out.1], by rw [HC.out.2], HN2, trivial⟩, ?_⟩
              show ((g1 : Nat) : Int).toNat < ((g : Nat) : Int).toNat
              rw [Int.toNat_natCast, Int.toNat_natCast]
              exact hgm
            · obtain ⟨k1, k2⟩ := HLW.out.2 hlt
              have k1' : c1 = a1 := k1
              subst k1'
              have w4 : IntKind.u64.wrap ((a0 : Int) - (vn2 : Int)) = (c0 : Int) := by rw [IntKind.wrap_u64]; omega
              have l4 : ¬ (a0 : Int) < (vn2 : Int) := by omega
              clear k1 k2 hlt ha1 ha0
              clear HLW
              go_wp2_with fail
              with_reducible refine (CG.out _).mono ?_
              rintro e w' ⟨rfl, rfl⟩
              clear CG
              go_wp2_with fail
              refine ⟨⟨g1, rr2, rfl, rfl, hr2, hg1B, by rw [HC.out.1], by rw [HC.out.2], HN2, trivial⟩, ?_⟩
              show ((g1 : Nat) : Int).toNat < ((g : Nat) : Int).toNat
              rw [Int.toNat_natCast, Int.toNat_natCast]
              exact hgm
          · obtain ⟨rr2, hrr2⟩ : ∃ rr2, rr2 = rr + vn1 - 18446744073709551616 := ⟨_, rfl⟩
            have w2 : IntKind.u64.wrap ((rr : Int) + (vn1 : Int)) = (rr2 : Int) := by rw [IntKind.wrap_u64]; omega
            have l2 : (rr2 : Int) < (vn1 : Int) := by omega
            have hdone := HN.out.broke HR3.out.hV HR3.out.hU2 HBIG.out hg1B b3 hV0 (by omega)
            have HDN := Lib.hid hdone
            clear hrr2 hov hc hdone HLW HGI hrr
            with_reducible generalize g * vn2 / 18446744073709551616 = a1 at *
            with_reducible generalize g * vn2 % 18446744073709551616 = a0 at *
            go_wp2_with fail
            with_reducible refine (CG.out _).mono ?_
            rintro e w' ⟨rfl, rfl⟩
            clear CG
            go_wp2_with fail
            go_meet
            exact ⟨g1, 0, rfl, hg1B, HDN.out, HN.out.up, rfl⟩
        · have hT : decide (rr < g * vn2 / 18446744073709551616 ∨ rr = g * vn2 / 18446744073709551616 ∧ u2 < g * vn2 % 18446744073709551616) = false := decide_eq_false (fun h => hc (hgt.1 h))
          rw [hT] at CG
          have hdone := hgi.out.done HR3.out.hV HR3.out.hU2 hbig hgB hV0 (by omega)
          have HDN := Lib.hid hdone
          have hgi2 := hgi
          clear hgt hT hlw hdone hc hbig hgi
          with_reducible generalize g * vn2 / 18446744073709551616 = a1 at *
          with_reducible generalize g * vn2 % 18446744073709551616 = a0 at *
          go_wp2_with fail
          with_reducible refine (CG.out _).mono ?_
          rintro e w' ⟨rfl, rfl⟩
          clear CG
          go_wp2_with fail
          go_meet
          exact ⟨g, 0, rfl, hgB, HDN.out, hgi2.out.up, rfl⟩
    obtain ⟨g, q2, rfl, hgB, hgU, hgU2, rfl⟩ := hcut
    clear hT CDW GI GTOP hjn1 hjn2 hpn2 cu1 cu2 cv2 hujn lu lv b1 b2 b3 hUw hvb hv0
    obtain ⟨Lh2, hLh2, hLl2⟩ := hrel.out.h
    have CM := Lib.hid (mulAddVWW_any (dgs 18446744073709551616 (p + 2) V) g 0 Lh2 gh oh (p + 2) ch cv (some ⟨bv, ov, none⟩) (wr.drewN q2) (dgs_length _ _ _) hcv (dgs_lt _ (by omega) _ _) hgB (by omega) (hLh2.drewN q2) (by omega) (by omega) (fun _ => ⟨bv, ov, rfl, fun wq i hi hbq hup => by
      have hc := VC.out wr hrel.out.v i hi
      have hlt := lt_of_cell hc
      rw [dgs_get _ _ _ _ hi]
      by_cases e : bv = gh
      · have ho := HV2.out.2 e
        have hlc : ov + i < Lh2.length := by omega
        have h1 := hLh2.cell (ov + i) hlc
        have h2 := hbq.cell (ov + i) (by rw [length_splice _ _ _ (by simp [dgs_length]; omega)]; exact hlc)
        have h3 : (splice Lh2 oh ((dgs 18446744073709551616 i (mulK (dgs 18446744073709551616 (p + 2) V) g 0 i)).map wv)).getD (ov + i) undef = Lh2.getD (ov + i) undef := by
          unfold splice
          rw [List.getD_eq_getElem?_getD, List.getElem?_append_left (by simp; omega), List.getElem?_take, if_pos (by omega), ← List.getD_eq_getElem?_getD]
        rw [h3, ← h1, ← e, hc] at h2
        exact ⟨h2, lt_of_cell h2⟩
      · have : wq.cell? ⟨bv, ov + i, none⟩ = (wr.drewN q2).cell? ⟨bv, ov + i, none⟩ := World.cell?_of_block (a := ⟨bv, ov + i, none⟩) (hup.block bv hlt (by intro e'; injection e' with e'; exact e e'))
        have h2 := this.trans hc
        exact ⟨h2, lt_of_cell h2⟩⟩))
    rw [dgs_val_of _ _ _ HVN.out, Nat.add_zero, Int.ofNat_zero] at CM
    have HLH := Lib.hid (And.intro hLh2 hLl2)
    clear hLh2 hLl2
    have hp2 : (p : Int) + 2 ≤ (ch : Int) := by omega
    have hp0 : (0 : Int) ≤ (p : Int) + 2 := by omega
    have hcar : V * g / 18446744073709551616 ^ (p + 2) < 18446744073709551616 := by
      rw [Nat.div_lt_iff_lt_mul (Nat.pow_pos (by omega)), Nat.mul_comm 18446744073709551616]
      exact Nat.mul_lt_mul_of_lt_of_le HVN.out (Nat.le_of_lt hgB) (by omega)
    have hfinL : ∀ W, Blk W gh 79 (splice Lh2 oh ((dgs 18446744073709551616 (p + 2) (V * g)).map wv)) → Blk (W.setCell ⟨gh, oh + (p + 2), none⟩ (.int .u64 ((V * g / 18446744073709551616 ^ (p + 2) : Nat) : Int))) gh 79 (splice Lh2 oh ((dgs 18446744073709551616 (p + 3) (V * g)).map wv)) := fun W hW => by
      have h := hW.set (oh + (p + 2)) (wv (V * g / 18446744073709551616 ^ (p + 2)))
      have e := splice_set Lh2 oh (p + 2) ((dgs 18446744073709551616 (p + 2) (V * g)).map wv) (wv (V * g / 18446744073709551616 ^ (p + 2))) (by simp [dgs_length]) (by have := HLH.out.2; omega)
      have e2 : (dgs 18446744073709551616 (p + 2) (V * g)).map wv ++ [wv (V * g / 18446744073709551616 ^ (p + 2))] = (dgs 18446744073709551616 (p + 3) (V * g)).map wv := by
        rw [show p + 3 = (p + 2) + 1 from rfl, dgs_snoc 18446744073709551616 (p + 2) (V * g), Nat.mod_eq_of_lt hcar]; simp
      rw [e, e2] at h
      exact h
    have HFL := Lib.hid hfinL
    have hP3 : V * g < 18446744073709551616 ^ (p + 3) := by
      rw [show p + 3 = (p + 2) + 1 from rfl, Nat.pow_succ _ (p + 2)]
      exact Nat.mul_lt_mul_of_lt_of_le HVN.out (Nat.le_of_lt hgB) (by omega)
    have HP3 := Lib.hid hP3
    have HUK : Hid (ur X V j < 18446744073709551616 ^ (p + 3)) := Lib.hid (by
      have h1 := HD.out.2.2.2
      have h2 : 18446744073709551616 * V ≤ 18446744073709551616 * 18446744073709551616 ^ (p + 2) := Nat.mul_le_mul_left _ (Nat.le_of_lt HVN.out)
      rw [show p + 3 = (p + 2) + 1 from rfl, Nat.pow_succ _ (p + 2), Nat.mul_comm _ 18446744073709551616]
      omega)
    clear hP3
    have HCAR := Lib.hid hcar
    clear hfinL hcar
    have HC0 : Hid (j = M → V * g / 18446744073709551616 ^ (p + 2) = 0 ∧ V * g < 18446744073709551616 ^ (p + 2) ∧ ur X V j < V) := Lib.hid (by
      rintro rfl
      have hUV := ur_top X V j HXX.out
      have hg1 : g ≤ 1 := by
        by_cases h : g ≤ 1
        · exact h
        · exfalso
          have : 2 * V ≤ g * V := Nat.mul_le_mul_right _ (by omega)
          omega
      have hVg : V * g ≤ V * 1 := Nat.mul_le_mul_left _ hg1
      have := HVN.out
      exact ⟨Nat.div_eq_of_lt (by omega), by omega, hUV⟩)
    have CMX : Hid (∀ e wm, VecPost gh (splice Lh2 oh ((dgs 18446744073709551616 (p + 2) (V * g)).map wv)) (V * g / 18446744073709551616 ^ (p + 2)) (wr.drewN q2) e wm → e = .returned (.int .u64 ((V * g / 18446744073709551616 ^ (p + 2) : Nat) : Int)) ∧ Blk wm gh 79 (splice Lh2 oh ((dgs 18446744073709551616 (p + 2) (V * g)).map wv)) ∧ Up (some gh) (wr.drewN q2) wm ∧ (∃ cv0, wm.cell? ⟨gh, oh + (p + 2), none⟩ = some cv0) ∧ wm.frozen? ⟨gh, oh + (p + 2), none⟩ = false ∧ gh < wm.heap.size) := Lib.hid (by
      rintro e wm ⟨rfl, h1, h2⟩
      refine ⟨rfl, h1, h2, ⟨_, h1.cell (oh + (p + 2)) (by rw [length_splice _ _ _ (by simp [dgs_length]; have := HLH.out.2; omega)]; have := HLH.out.2; omega)⟩, h1.free _, h1.lt⟩)
    with_reducible generalize V * g / 18446744073709551616 ^ (p + 2) = car at *
    have hq2' : (p : Int) + 2 < (p : Int) + 3 := by omega
    by_cases hjM : j = M
    · obtain ⟨rfl, hP2, hUV⟩ := HC0.out hjM
      have hlL2 := HLH.out.2
      subst hjM
      have e00 : ((0 : Nat) : Int) = 0 := rfl
      rw [e00] at CMX HFL
      have hU2 : ur X V j < 18446744073709551616 ^ (p + 2) := Nat.lt_trans hUV HVN.out
      have HU2 := Lib.hid hU2
      have HP2 := Lib.hid hP2
      have HUV := Lib.hid hUV
      clear HC0 e00 hP2 hUV hU2
      go_wp2_with fail
      with_reducible refine CM.out.mono ?_
      intro e wm hpost
      obtain ⟨rfl, hmb, hmu, ⟨cv0, hmc⟩, hmf, hml⟩ := CMX.out e wm hpost
      have HMB := Lib.hid hmb
      have HMU := Lib.hid hmu
      clear hpost hmb hmu CM CMX
      have hrow := HFL.out wm HMB.out
      obtain ⟨w5, hw5⟩ : ∃ w5, w5 = wm.setCell ⟨gh, oh + (p + 2), none⟩ (.int .u64 0) := ⟨_, rfl⟩
      rw [← hw5] at hrow
      have hup5 : Up (some gh) wr w5 := by rw [hw5]; exact (((Up.refl _ wr).drewN q2).trans HMU.out).set _ _
      have hlsp : (splice Lh2 oh ((dgs 18446744073709551616 (p + 3) (V * g)).map wv)).length = Lh.length := by rw [length_splice _ _ _ (by simp [dgs_length]; omega)]; exact hlL2
      have MID := Lib.hid (hrel.out.mid.wr_h hup5 hrow hlsp (v_kept hrel.out.v HV2.out.2 HLH.out.1 _ hrow (by simp [dgs_length]; omega) hup5) HQ2N.out HU2N.out hHw hHg)
      have CS1 := Lib.hid (fun q => sub_at X V j p (p + 2) (V * g) cu ch bu gh oh (j + (p + 2)) Lu Lh2 (w5.drewN q) (by omega) (by omega) (by omega) (by omega) (by omega) (by omega) HU2.out HP2.out HU2N.out (by omega) (MID.out.u.drewN q) (hrow.drewN q))
      obtain ⟨J2, hJ2⟩ : ∃ J2, J2 = j + (p + 2) := ⟨_, rfl⟩
      have t0 : (p : Int) + 2 + 1 - 1 = (p : Int) + 2 := by omega
      have t1 : IntKind.i64.wrap ((j : Int) + ((p : Int) + 2)) = (J2 : Int) := by rw [IntKind.wrap_i64]; omega
      have t2 : (J2 : Int) ≤ (cu : Int) := by omega
      have t3 : (0 : Int) ≤ (J2 : Int) := by omega
      have t4 : j ≤ J2 := by omega
      have t5 : J2 - j = p + 2 := by omega
      have t6 : IntKind.i64.wrap (J2 : Int) = (J2 : Int) := by rw [IntKind.wrap_i64]; omega
      have t7 : ¬ cu = j := by omega
      have t8 : ((p : Int) + 2).toNat = p + 2 := by omega
      have t9 : (p : Int) + 2 ≤ (ch : Int) := by omega
      have hvl5 : bv < w5.heap.size := by have := hup5.size; have := lt_of_cell (VC.out wr hrel.out.v 0 (by omega)); omega
      have HJ2 := Lib.hid hJ2
      clear hrow hup5 hlsp hJ2 hlL2
      by_cases hb : ur X V j < V * g
      · have hgV : ur X V j < g * V := by rw [Nat.mul_comm]; exact hb
        obtain ⟨D, hD⟩ : ∃ D, D = ur X V j + 18446744073709551616 ^ (p + 2) - g * V := ⟨_, rfl⟩
        have hgB3 : g * V < ur X V j + 18446744073709551616 ^ (p + 2) := by have := HP2.out; rw [Nat.mul_comm] at this; omega
        obtain ⟨hr1, hr2, hr3⟩ := row_given_top Lu (j + (p + 2)) X V j (p + 2) g hLu (by omega) hV0 HU2.out hgV hgU hgU2 hgB3 D hD
        rw [if_pos hb, Nat.mul_comm V g, ← hD] at CS1
        have wg1 : IntKind.u64.wrap ((g : Int) - 1) = 0 := by rw [Nat.div_eq_of_lt HUV.out] at hr2; rw [IntKind.wrap_u64]; omega
        have HR1 := Lib.hid hr1
        clear hb hgV hr1 hr2 hr3 hD hgB3
        go_upto_if 128 with fail
        go_wp2_with fail
        rw [← hw5]
        clear hw5
        go_region_held3 (fun _ => True) (trivial) ((go_at_call 67; refine (CS1.out _).mono ?_; rintro e w6 ⟨rfl, hk6, hu6⟩; have HK6 := Lib.hid hk6; have HU6 := Lib.hid hu6; clear hk6 hu6))
        have hlS : (splice (splice Lu 0 ((dgs 18446744073709551616 (j + (p + 2)) (yk X V (j + 1))).map wv)) j ((dgs 18446744073709551616 (p + 2) D).map wv)).length = Lu.length := by rw [length_splice _ _ _ (by rw [length_splice _ _ _ (by simp [dgs_length]; omega)]; simp [dgs_length]; omega), length_splice _ _ _ (by simp [dgs_length]; omega)]
        have MID6 := Lib.hid (MID.out.wr_u (((Up.refl _ w5).drewN _).trans HU6.out) HK6.out (by rw [hlS, length_splice _ _ _ (by simp [dgs_length]; omega)]) n1 HU2N.out n2 hvl5 hHw hHu)
        have hvl6 : bv < w6.heap.size := Nat.lt_of_lt_of_le hvl5 HU6.out.size
        have CA1 := Lib.hid (fun q => add_at V j p (p + 2) D cu cv bu bv ov (splice Lu 0 ((dgs 18446744073709551616 (j + (p + 2)) (yk X V (j + 1))).map wv)) (w6.drewN q) (by omega) hcv (by omega) (by rw [length_splice _ _ _ (by simp [dgs_length]; omega)]; omega) (by omega) HVN.out n2 (HK6.out.drewN q) MID6.out.v)
        rw [HR1.out] at CA1
        generalize (D % 18446744073709551616 ^ (p + 2) + V) / 18446744073709551616 ^ (p + 2) = c2 at CA1
        clear CS1
        go_wp2_with fail
        go_region_held3 (fun _ => True) (trivial) ((go_at_call 65; refine (CA1.out _).mono ?_; rintro e w7 ⟨rfl, hk7, hu7⟩; have HK7 := Lib.hid hk7; have HU7 := Lib.hid hu7; clear hk7 hu7))
        have MID7 := Lib.hid (MID6.out.wr_u (((Up.refl _ w6).drewN _).trans HU7.out) HK7.out (by rw [hlS, length_splice _ _ _ (by simp [dgs_length]; omega)]) n1 HU2N.out n2 hvl6 hHw hHu)
        have cu7 := HK7.out.cell (j + (p + 1)) (by rw [length_splice _ _ _ (by simp [dgs_length]; omega)]; omega)
        rw [ujn_next Lu (j + (p + 2)) X V j p hLu (by omega) hV0 HVN.out] at cu7
        have lu7 := HK7.out.lt
        have hjn1 : (j : Int) + ((p : Int) + 2) - 1 = ((j + (p + 1) : Nat) : Int) := by omega
        have hjn2 : ((j + (p + 1) : Nat) : Int) < (j : Int) + ((p : Int) + 2) := by omega
        clear HK6 HU6 HK7 HU7 MID6 hvl5 hvl6 CA1 t0 t1 t2 t3 t4 t5 t6 t7 t8 t9 hlS
        generalize hun : X / 18446744073709551616 ^ j % V / 18446744073709551616 ^ (p + 1) = un at *
        go_wp2_with fail
        refine ⟨⟨j, by omega, rfl, by rw [hun], Lib.hid MID7.out.top.rel⟩, ?_⟩
        show ((j : Int) - 1 + 1).toNat < ((j : Int) + 1).toNat
        omega
      · have hgV : g * V ≤ ur X V j := by rw [Nat.mul_comm]; omega
        obtain ⟨hr1, hr2⟩ := row_taken Lu (j + (p + 2)) X V j (p + 2) g hLu (by omega) hV0 HU2.out hgV hgU hgU2
        rw [if_neg hb, Nat.mul_comm V g, hr1] at CS1
        have g0 : (g : Int) = 0 := by rw [Nat.div_eq_of_lt HUV.out] at hr2; omega
        clear hb hgV hr1 hr2
        go_upto_if 128 with fail
        go_wp2_with fail
        rw [← hw5]
        clear hw5
        go_region_held3 (fun _ => True) (trivial) ((go_at_call 67; refine (CS1.out _).mono ?_; rintro e w6 ⟨rfl, hk6, hu6⟩; have HK6 := Lib.hid hk6; have HU6 := Lib.hid hu6; clear hk6 hu6))
        have MID6 := Lib.hid (MID.out.wr_u (((Up.refl _ w5).drewN _).trans HU6.out) HK6.out (by rw [length_splice _ _ _ (by simp [dgs_length]; omega), length_splice _ _ _ (by simp [dgs_length]; omega)]) n1 HU2N.out n2 hvl5 hHw hHu)
        have cu6 := HK6.out.cell (j + (p + 1)) (by rw [length_splice _ _ _ (by simp [dgs_length]; omega)]; omega)
        rw [ujn_next Lu (j + (p + 2)) X V j p hLu (by omega) hV0 HVN.out] at cu6
        have lu6 := HK6.out.lt
        have hjn1 : (j : Int) + ((p : Int) + 2) - 1 = ((j + (p + 1) : Nat) : Int) := by omega
        have hjn2 : ((j + (p + 1) : Nat) : Int) < (j : Int) + ((p : Int) + 2) := by omega
        clear HK6 HU6 hvl5 CS1 t0 t1 t2 t3 t4 t5 t6 t7 t8 t9
        generalize hun : X / 18446744073709551616 ^ j % V / 18446744073709551616 ^ (p + 1) = un at *
        go_wp2_with fail
        refine ⟨⟨j, by omega, rfl, by rw [hun], Lib.hid MID6.out.top.rel⟩, ?_⟩
        show ((j : Int) - 1 + 1).toNat < ((j : Int) + 1).toNat
        omega
    · have hgt0 : ¬ (j : Int) + ((p : Int) + 3) > (M : Int) + ((p : Int) + 2) := by omega
      go_wp2_with fail
      with_reducible refine CM.out.mono ?_
      intro e wm hpost
      obtain ⟨rfl, hmb, hmu, ⟨cv0, hmc⟩, hmf, hml⟩ := CMX.out e wm hpost
      have HMB := Lib.hid hmb
      have HMU := Lib.hid hmu
      clear hpost hmb hmu CM CMX
      have hrow := HFL.out wm HMB.out
      obtain ⟨w5, hw5⟩ : ∃ w5, w5 = wm.setCell ⟨gh, oh + (p + 2), none⟩ (.int .u64 (car : Int)) := ⟨_, rfl⟩
      rw [← hw5] at hrow
      have hup5 : Up (some gh) wr w5 := by rw [hw5]; exact (((Up.refl _ wr).drewN q2).trans HMU.out).set _ _
      have hlsp : (splice Lh2 oh ((dgs 18446744073709551616 (p + 3) (V * g)).map wv)).length = Lh.length := by rw [length_splice _ _ _ (by simp [dgs_length]; have := HLH.out.2; omega)]; exact HLH.out.2
      have MID := Lib.hid (hrel.out.mid.wr_h hup5 hrow hlsp (v_kept hrel.out.v HV2.out.2 HLH.out.1 _ hrow (by simp [dgs_length]; have := HLH.out.2; omega) hup5) HQ2N.out HU2N.out hHw hHg)
      have CS1 := Lib.hid (fun q => sub_at X V j p (p + 3) (V * g) cu ch bu gh oh (M + (p + 2)) Lu Lh2 (w5.drewN q) (by omega) hch (by omega) (by omega) (by omega) (by omega) HUK.out HP3.out HU2N.out (by have := HLH.out.2; omega) (MID.out.u.drewN q) (hrow.drewN q))
      obtain ⟨J3, hJ3⟩ : ∃ J3, J3 = j + (p + 3) := ⟨_, rfl⟩
      have s1 : IntKind.i64.wrap ((j : Int) + ((p : Int) + 2 + 1)) = (J3 : Int) := by rw [IntKind.wrap_i64]; omega
      have s2 : (J3 : Int) ≤ (cu : Int) := by omega
      have s3 : (0 : Int) ≤ (J3 : Int) := by omega
      have s4 : j ≤ J3 := by omega
      have s5 : J3 - j = p + 3 := by omega
      have s6 : ¬ cu = j := by omega
      have s7 : IntKind.i64.wrap ((p : Int) + 2 + 1) = ((p + 3 : Nat) : Int) := by rw [IntKind.wrap_i64]; omega
      have s10 : ((p : Int) + 2 + 1).toNat = p + 3 := by omega
      have s8 : (p : Int) + 2 + 1 ≤ (ch : Int) := by omega
      have s9 : (0 : Int) ≤ (p : Int) + 2 + 1 := by omega
      have HJ3 := Lib.hid hJ3
      clear hJ3
      have hjm0 : ¬ (j : Int) = (M : Int) := by omega
      have hjlt : (j : Int) < (M : Int) := by omega
      have hvl5 : bv < w5.heap.size := by have := hup5.size; have := lt_of_cell (VC.out wr hrel.out.v 0 (by omega)); omega
      clear hrow hup5 hlsp
      by_cases hb : ur X V j < V * g
      · have hgV : ur X V j < g * V := by rw [Nat.mul_comm]; exact hb
        obtain ⟨D, hD⟩ : ∃ D, D = ur X V j + 18446744073709551616 ^ (p + 3) - g * V := ⟨_, rfl⟩
        have hgB3 : g * V < ur X V j + 18446744073709551616 ^ (p + 3) := by have := HP3.out; rw [Nat.mul_comm] at this; omega
        obtain ⟨hr1, hr2, hr3⟩ := row_given Lu (M + (p + 2)) X V j (p + 2) g hLu (by omega) hV0 HUK.out hgV hgU hgU2 hgB3 D hD
        rw [if_pos hb, Nat.mul_comm V g, ← hD] at CS1
        obtain ⟨g1, hg1⟩ : ∃ g1, g1 = g - 1 := ⟨_, rfl⟩
        rw [← hg1] at hr2
        have wg1 : IntKind.u64.wrap ((g : Int) - 1) = (g1 : Int) := by rw [IntKind.wrap_u64]; omega
        have hg1B : g1 < 18446744073709551616 := by omega
        have HR1 := Lib.hid hr1
        have HR2 := Lib.hid hr2
        obtain ⟨J2, hJ2⟩ : ∃ J2, J2 = j + (p + 2) := ⟨_, rfl⟩
        have t1 : IntKind.i64.wrap ((j : Int) + ((p : Int) + 2)) = (J2 : Int) := by rw [IntKind.wrap_i64]; omega
        have t2 : (J2 : Int) ≤ (cu : Int) := by omega
        have t3 : (0 : Int) ≤ (J2 : Int) := by omega
        have t4 : j ≤ J2 := by omega
        have t5 : J2 - j = p + 2 := by omega
        have t6 : IntKind.i64.wrap (J2 : Int) = (J2 : Int) := by rw [IntKind.wrap_i64]; omega
        have hq3 : (p : Int) + 2 < (p : Int) + 2 + 1 := by omega
        have HJ2 := Lib.hid hJ2
        clear hb hgV hr1 hr2 hr3 hD hgB3 hg1 hJ2
        go_upto_if 128 with fail
        go_wp2_with fail
        rw [← hw5]
        clear hw5
        go_region_held3 (fun _ => True) (trivial) ((go_at_call 67; refine (CS1.out _).mono ?_; rintro e w6 ⟨rfl, hk6, hu6⟩; have HK6 := Lib.hid hk6; have HU6 := Lib.hid hu6; clear hk6 hu6))
        have hlS : (splice (splice Lu 0 ((dgs 18446744073709551616 (M + (p + 2)) (yk X V (j + 1))).map wv)) j ((dgs 18446744073709551616 (p + 3) D).map wv)).length = Lu.length := by rw [length_splice _ _ _ (by rw [length_splice _ _ _ (by simp [dgs_length]; omega)]; simp [dgs_length]; omega), length_splice _ _ _ (by simp [dgs_length]; omega)]
        have MID6 := Lib.hid (MID.out.wr_u (((Up.refl _ w5).drewN _).trans HU6.out) HK6.out (by rw [hlS, length_splice _ _ _ (by simp [dgs_length]; omega)]) n1 HU2N.out n2 hvl5 hHw hHu)
        have hvl6 : bv < w6.heap.size := Nat.lt_of_lt_of_le hvl5 HU6.out.size
        have CA1 := Lib.hid (fun q => add_at V j p (p + 3) D cu cv bu bv ov (splice Lu 0 ((dgs 18446744073709551616 (M + (p + 2)) (yk X V (j + 1))).map wv)) (w6.drewN q) (by omega) hcv (by omega) (by rw [length_splice _ _ _ (by simp [dgs_length]; omega)]; omega) (by omega) HVN.out n2 (HK6.out.drewN q) MID6.out.v)
        obtain ⟨c2, hc2⟩ : ∃ c2, c2 = (D % 18446744073709551616 ^ (p + 2) + V) / 18446744073709551616 ^ (p + 2) := ⟨_, rfl⟩
        rw [← hc2] at CA1
        have HC2 := Lib.hid hc2
        clear CS1 s1 s2 s3 s4 s5 s7 s8 s9 s10 hc2
        go_wp2_with fail
        go_region_held3 (fun _ => True) (trivial) ((go_at_call 65; refine (CA1.out _).mono ?_; rintro e w7 ⟨rfl, hk7, hu7⟩; have HK7 := Lib.hid hk7; have HU7 := Lib.hid hu7; clear hk7 hu7))
        obtain ⟨L7, hL7⟩ : ∃ L7, L7 = splice (splice (splice Lu 0 ((dgs 18446744073709551616 (M + (p + 2)) (yk X V (j + 1))).map wv)) j ((dgs 18446744073709551616 (p + 3) D).map wv)) j ((dgs 18446744073709551616 (p + 2) (D % 18446744073709551616 ^ (p + 2) + V)).map wv) := ⟨_, rfl⟩
        have hk7 := HK7.out
        rw [← hL7] at hk7
        have hr1 := HR1.out
        rw [← hL7, ← HC2.out, ← HJ2.out] at hr1
        have hl7 : L7.length = Lu.length := by rw [hL7, length_splice _ _ _ (by rw [hlS]; simp [dgs_length]; omega), hlS]
        have c7 := hk7.cell J2 (by have := HJ2.out; omega)
        have c7v : L7.getD J2 undef = .int .u64 ((D / 18446744073709551616 ^ (p + 2) % 18446744073709551616 : Nat) : Int) := by
          rw [hL7, HJ2.out, splice_beyond _ _ j (p + 2) (by simp [dgs_length]) (by rw [hlS]; simp [dgs_length]; omega), row_word _ j (p + 3) D (p + 2) (by rw [length_splice _ _ _ (by simp [dgs_length]; omega)]; omega) (by omega)]
        rw [c7v] at c7
        have f7 := hk7.free J2
        have l7 := hk7.lt
        obtain ⟨dt, hdt⟩ : ∃ dt, dt = D / 18446744073709551616 ^ (p + 2) % 18446744073709551616 := ⟨_, rfl⟩
        rw [← hdt] at c7
        obtain ⟨sm, hsm⟩ : ∃ sm, sm = (D / 18446744073709551616 ^ (p + 2) + c2) % 18446744073709551616 := ⟨_, rfl⟩
        rw [← hsm] at hr1
        have wsm : IntKind.u64.wrap ((dt : Int) + (c2 : Int)) = (sm : Int) := by
          rw [IntKind.wrap_u64, hdt, hsm]; generalize D / 18446744073709551616 ^ (p + 2) = a; omega
        have hk8 := hk7.set J2 (.int .u64 (sm : Int))
        rw [hr1] at hk8
        have MID8 := Lib.hid (MID6.out.wr_u ((((Up.refl _ w6).drewN _).trans HU7.out).set J2 (.int .u64 (sm : Int))) hk8 (by rw [hlS, length_splice _ _ _ (by simp [dgs_length]; omega)]) n1 HU2N.out n2 hvl6 hHw hHu)
        have hvl8 : bv < (w7.setCell ⟨bu, J2, none⟩ (.int .u64 (sm : Int))).heap.size := by
          have h1 : bv < w7.heap.size := Nat.lt_of_lt_of_le hvl6 HU7.out.size
          have h2 := ((Up.refl (some bu) w7).set J2 (.int .u64 (sm : Int))).size
          omega
        have MID9 := Lib.hid (MID8.out.wr_q hLq (by omega) hV0 HR2.out hg1B n1 HQ2N.out n3 hvl8 hHw hHq)
        have cu8 := hk8.cell (j + (p + 1)) (by rw [length_splice _ _ _ (by simp [dgs_length]; omega)]; omega)
        rw [ujn_next Lu (M + (p + 2)) X V j p hLu (by omega) hV0 HVN.out] at cu8
        have lu8 := hk8.lt
        have cq8 := MID8.out.q.cell j (by rw [length_splice _ _ _ (by simp [dgs_length]; omega)]; omega)
        have fq8 := MID8.out.q.free j
        have lq8 := MID8.out.q.lt
        have hjn1 : (j : Int) + ((p : Int) + 2) - 1 = ((j + (p + 1) : Nat) : Int) := by omega
        have hjn2 : ((j + (p + 1) : Nat) : Int) < (M : Int) + ((p : Int) + 2) := by omega
        have hjn5 : (J2 : Int) - 1 = ((j + (p + 1) : Nat) : Int) := by have := HJ2.out; omega
        have hjn3 : (j : Int) + ((p : Int) + 2) = (J2 : Int) := by have := HJ2.out; omega
        have hjn4 : (J2 : Int) < (M : Int) + ((p : Int) + 2) := by have := HJ2.out; omega
        have hJne : ¬ j + (p + 1) = J2 := by have := HJ2.out; omega
        clear HK6 HK7 HU6 HU7 MID6 MID8 hvl6 hvl5 hvl8 CA1 t1 t2 t4 t5 s6 hL7 hk7 hk8 hr1 hl7 c7v hdt hsm hlS HR1 HC2
        generalize hun : X / 18446744073709551616 ^ j % V / 18446744073709551616 ^ (p + 1) = un at *
        go_wp2_with fail
        refine ⟨⟨j, by omega, rfl, by rw [hun], Lib.hid MID9.out.rel⟩, ?_⟩
        show ((j : Int) - 1 + 1).toNat < ((j : Int) + 1).toNat
        omega
      · have hgV : g * V ≤ ur X V j := by rw [Nat.mul_comm]; omega
        obtain ⟨hr1, hr2⟩ := row_taken Lu (M + (p + 2)) X V j (p + 3) g hLu (by omega) hV0 HUK.out hgV hgU hgU2
        rw [if_neg hb, Nat.mul_comm V g, hr1] at CS1
        have HR2 := Lib.hid hr2
        clear hb hgV hr1 hr2
        go_upto_if 128 with fail
        go_wp2_with fail
        rw [← hw5]
        clear hw5
        go_region_held3 (fun _ => True) (trivial) ((go_at_call 67; refine (CS1.out _).mono ?_; rintro e w6 ⟨rfl, hk6, hu6⟩; have HK6 := Lib.hid hk6; have HU6 := Lib.hid hu6; clear hk6 hu6))
        have MID6 := Lib.hid (MID.out.wr_u (((Up.refl _ w5).drewN _).trans HU6.out) HK6.out (by rw [length_splice _ _ _ (by simp [dgs_length]; omega), length_splice _ _ _ (by simp [dgs_length]; omega)]) n1 HU2N.out n2 hvl5 hHw hHu)
        have hvl6 : bv < w6.heap.size := Nat.lt_of_lt_of_le hvl5 HU6.out.size
        have MID7 := Lib.hid (MID6.out.wr_q hLq (by omega) hV0 HR2.out hgB n1 HQ2N.out n3 hvl6 hHw hHq)
        have cu6 := HK6.out.cell (j + (p + 1)) (by rw [length_splice _ _ _ (by simp [dgs_length]; omega)]; omega)
        rw [ujn_next Lu (M + (p + 2)) X V j p hLu (by omega) hV0 HVN.out] at cu6
        have lu6 := HK6.out.lt
        have cq6 := MID6.out.q.cell j (by rw [length_splice _ _ _ (by simp [dgs_length]; omega)]; omega)
        have fq6 := MID6.out.q.free j
        have lq6 := MID6.out.q.lt
        have hjn1 : (j : Int) + ((p : Int) + 2) - 1 = ((j + (p + 1) : Nat) : Int) := by omega
        have hjn2 : ((j + (p + 1) : Nat) : Int) < (M : Int) + ((p : Int) + 2) := by omega
        clear HK6 HU6 MID6 hvl6 hvl5 CS1 s1 s2 s3 s4 s5 s6 s7 s8 s9 s10
        generalize hun : X / 18446744073709551616 ^ j % V / 18446744073709551616 ^ (p + 1) = un at *
        go_wp2_with fail
        refine ⟨⟨j, by omega, rfl, by rw [hun], Lib.hid MID7.out.rel⟩, ?_⟩
        show ((j : Int) - 1 + 1).toNat < ((j : Int) + 1).toNat
        omega
  · obtain rfl : k = 0 := by omega
    have ek : (((0 : Nat) : Int) - 1) = -1 := rfl
    rw [ek]
    clear ek
    go_wp2_with fail
    obtain ⟨l3, og3, hl3, hs3⟩ := hrel.out.s
    refine leaves_cons (f := 76) (args := #[.pointer (some ⟨S, 0, none⟩), .int .i64 (l : Int)]) (by simp) (by kernel_rfl) ?_
    refine (restore_deferred .returning wr H S l3 l og3 hs3 hl3).mono ?_
    rintro e u' w'' ⟨rfl, rfl, h1, h2, h3⟩
    refine ⟨.tuple #[], ?_, rfl, ⟨l, og3, h1⟩, ?_, ?_, hrel.out.b.trans h2⟩
    · simp [results, Tryz.results82, go_sem]
    · have := hrel.out.q
      rw [Nat.sub_zero, Nat.pow_zero, Nat.div_one] at this
      exact h3 _ _ this
    · have := hrel.out.u
      rw [yk_zero] at this
      exact h3 _ _ this
end Go.Proofs.YtpcnmgldmnncoaaGreatDoor
