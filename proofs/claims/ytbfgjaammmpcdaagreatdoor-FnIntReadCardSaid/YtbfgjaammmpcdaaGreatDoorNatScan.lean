/- nat.scan of digits in a base that packs no words. -/
import Derived.Test.YtbfgjaammmpcdaaGreatDoorScanBase
import Derived.Test.YtbfgjaammmpcdaaGreatDoorPow
import Derived.Test.YtbfgjaammmpcdaaGreatDoorMulWW
import Derived.Test.YtbfgjaammmpcdaaGreatDoorMIr
import Derived.LaidEql
namespace Go.Proofs.YtbfgjaammmpcdaaGreatDoor
open Go.RowKit Dig
set_option linter.unusedVariables false
set_option linter.unusedSimpArgs false
set_option maxRecDepth 100000

set_option maxHeartbeats 6400000 in
theorem natScan_any (rb b : Nat) (s : ByteArray) (ds : List Nat) (eP nP : Addr) (w : World) (h : Rdr w rb s 0) (hrb : rb < w.heap.size) (hk : 0 < s.size) (hdl : ds.length ≤ s.size) (hs : s.size ≤ 1048576) (hb : 2 ≤ b) (hb2 : b ≤ 36) (q2 : b ≠ 2) (q4 : b ≠ 4) (q16 : b ≠ 16)
    (hds : ∀ k (hk : k < s.size), k < ds.length → IsDig (s[k]'hk).toNat (ds.getD k 0) ∧ ds.getD k 0 < b) (hbad : ∀ h : ds.length < s.size, (s[ds.length]'h).toNat = sgnOf b) (hlim : hval b ds < lim) (hE : w.cell? ⟨1, 0, none⟩ = some ((.iface 178 (.pointer (some eP))))) (hN : w.cell? ⟨7, 0, none⟩ = some ((.iface 178 (.pointer (some nP))))) (hne : rb ≠ 1) (hne2 : rb ≠ 7) :
    Calls Tryz.prog 111 #[.slice none 0 0, .iface 99 (.pointer (some ⟨rb, 0, none⟩)), .int .i64 (b : Int), .bool false] w (NsPost b rb s ds nP w) := by
  obtain ⟨E, hEE⟩ : ∃ E : Value, E = (.iface 178 (.pointer (some eP))) := ⟨_, rfl⟩
  rw [← hEE] at hE
  have HEE := Lib.hid hEE
  have HN := Lib.hid hN
  clear hEE hN
  have C1 := Lib.hid (readByte_yes rb s 0 _ w h hk rfl hs)
  have g0 : ((b : Int) == 0) = false := by rw [beq_eq_false_iff_ne]; omega
  have g2 : ((b : Int) == 2) = false := by rw [beq_eq_false_iff_ne]; omega
  have g4 : ((b : Int) == 4) = false := by rw [beq_eq_false_iff_ne]; omega
  have g16 : ((b : Int) == 16) = false := by rw [beq_eq_false_iff_ne]; omega
  have HD := Lib.hid hds
  have HBAD := Lib.hid hbad
  have HE := Lib.hid hE
  clear h hds hE hbad
  generalize hx : (s[0]'hk).toNat = x at C1
  go_enter Tryz.func111, Tryz.ntmps111
  go_wp2_with fail
  refine C1.out.mono ?_
  rintro e w1 ⟨rfl, hr1, hu1⟩
  have HR1 := Lib.hid hr1
  have HU1 := Lib.hid hu1
  have CM := Lib.hid (maxPow_any b w1 hb hb2)
  clear hr1 hu1 C1
  go_wp2_with fail
  refine CM.out.mono ?_
  rintro e w2 ⟨n, hn1, hn2, hbn, rfl, rfl⟩
  have gbn : (((b ^ n : Nat) : Int) == 0) = false := by
    rw [beq_eq_false_iff_ne]; have := Nat.pow_pos (n := n) (show 0 < b by omega); omega
  have HST : Hid (ScRel b n rb s ds E w (.slice none 0 0) (.bool false) (.int .i64 0) .nilIface (.int .i32 46) (.bool false) (.int .u8 (x : Int)) (.int .u64 0) (.int .i64 0) (.int .i64 (-1)) w1) := Lib.hid ⟨0, rfl, rfl, rfl, Nat.zero_le _, rfl, rfl, by rw [dOf_zero]; rfl, by rw [Nat.zero_mod]; rfl, .inl ⟨rfl, zOf_zero _ _ _⟩, .inl ⟨hk, by rw [hx], rfl, HR1.out⟩, HU1.out⟩
  have HX := Lib.hid hx
  have HBN := Lib.hid hbn
  clear CM hx hbn
  generalize hBe : b ^ n = B at *
  have HBE := Lib.hid hBe
  clear hBe
  go_wp2_with fail
  go_loopw [0, 3, 10, 11, 13, 14, 15, 20, 21, 22] (ScRel b n rb s ds E w) (fun _ _ c _ _ _ _ _ _ _ _ => ds.length - (intOf c).toNat)
  case atStart => exact HST.out
  obtain ⟨k, rfl, rfl, rfl, hkd, rfl, rfl, rfl, rfl, hz, hah, hu⟩ := hrel
  clear HST HR1 HU1
  by_cases hkl : k < ds.length
  · have hks : k < s.size := by omega
    obtain ⟨hdig, hdb⟩ := HD.out k hks hkl
    obtain ⟨h3, rfl, rfl, hr⟩ : ∃ h : k < s.size, u15 = .int .u8 (((s[k]'h).toNat : Nat) : Int) ∧ u11 = .nilIface ∧ Rdr wr rb s (k + 1) := by
      rcases hah with h | ⟨h, _⟩
      · exact h
      · omega
    obtain ⟨z1, z2, z3, z4⟩ := hdig.not
    have hspan := hdig.span
    have hdo := dOf_lt b n k ds (by omega) (fun d hd => by
      obtain ⟨q, hq, rfl⟩ := List.getElem_of_mem hd
      have := (HD.out q (by omega) hq).2
      rwa [List.getD_eq_getElem?_getD, List.getElem?_eq_getElem hq, Option.getD_some] at this)
    have CN := Lib.hid (fun W (hu : Up (some rb) w W) (h : Rdr W rb s (k + 1)) => readNext rb (k + 1) s E w W hu h (by omega) hs HE.out hne)
    generalize (s[k]'h3).toNat = c at *
    have c1 : ((c : Int) == 46) = false := by rw [beq_eq_false_iff_ne]; omega
    have c2 : ((c : Int) == 95) = false := by rw [beq_eq_false_iff_ne]; omega
    have hdk : ds[k]? = some (ds.getD k 0) := by rw [List.getD_eq_getElem?_getD, List.getElem?_eq_getElem hkl]; rfl
    have hDd : dOf b n k ds * b + ds.getD k 0 < 18446744073709551616 := by
      have h5 : (dOf b n k ds + 1) * b ≤ b ^ (k % n) * b := Nat.mul_le_mul_right _ hdo
      have h6 : b ^ (k % n) * b ≤ B := by
        rw [← Nat.pow_succ, ← HBE.out]
        exact Nat.pow_le_pow_right (by omega) (Nat.mod_lt k (by omega))
      have h7 := HBN.out
      rw [Nat.add_mul] at h5
      omega
    have hil := Nat.mod_lt k (show 0 < n by omega)
    have HZ := Lib.hid hz
    have HR := Lib.hid hr
    have HU := Lib.hid hu
    have HG := Lib.hid (chunk_go b n k _ ds (by omega) hdk)
    have HF := Lib.hid (chunk_full b n k _ ds (by omega) hdk)
    have hzl : zOf b n k ds < lim := Nat.lt_of_le_of_lt (Nat.le_trans (zOf_le b n k ds hkd (by omega) (by omega)) (hval_take_le (by omega) ds k)) hlim
    have CW := Lib.hid (mulAddWW_own (zOf b n k ds) B (dOf b n k ds * b + ds.getD k 0) w.heap.size u0 wr hz hzl hu.size (by rw [← HBE.out]; exact Nat.pow_pos (by omega)) HBN.out hDd)
    clear hz hr hu hah hdo hdk hzl hdig
    generalize ds.getD k 0 = d at *
    generalize hD : dOf b n k ds = D at *
    generalize hi : k % n = i at *
    have HDI := Lib.hid (And.intro hD hi)
    clear hD hi
    have HSP := Lib.hid hspan
    -- ARMS
    rcases hspan with ⟨s1, s2, s3⟩ | ⟨s1, s2, s3⟩ | ⟨s1, s2, s3⟩
    · subst s3
      have CW2 : Hid (Calls Tryz.prog 107 #[u0, u0, .int .u64 (B : Int), .int .u64 ((D : Int) * (b : Int) + ((c : Int) - 48))] wr (MwPost (zOf b n k ds * B + (D * b + (c - 48))) w.heap.size wr)) := by
        have e : ((c - 48 : Nat) : Int) = (c : Int) - 48 := by omega
        have := CW.out
        rw [Int.natCast_add, Int.natCast_mul, e] at this
        exact Lib.hid this
      clear CW
      by_cases hf : i + 1 = n
      · go_wp2_with fail
        with_reducible refine CW2.out.mono ?_
        rintro e w3 ⟨v3, rfl, ho3, hb3⟩
        have HR3 : Hid (Rdr w3 rb s (k + 1)) := by
          obtain ⟨p, hp⟩ := HR.out
          exact Lib.hid ⟨p, hp.below hb3 hrb⟩
        have HU3 : Hid (Up (some rb) w w3) := Lib.hid ⟨hb3.os.trans HU.out.os, hb3.tape.trans HU.out.tape, hb3.output.trans HU.out.output, Nat.le_trans HU.out.size hb3.size, fun q hq hne2 => (hb3.block q hq).trans (HU.out.block q hq hne2)⟩
        have HO3 := Lib.hid ho3
        clear hb3 ho3 CW2 HU HR HZ
        go_wp2_with fail
        with_reducible refine (CN.out w3 HU3.out HR3.out).mono ?_
        rintro e w4 ⟨ch, err, rfl, ha4, hu4⟩
        have HA4 := Lib.hid ha4
        have HU4 := Lib.hid (HU3.out.trans hu4)
        have HO4 := Lib.hid (HO3.out.up hu4 hrb)
        clear ha4 hu4 CN HO3 HU3 HR3
        go_wp2_with fail
        go_roundw
        case rel =>
          obtain ⟨t1, t2, t3⟩ := HF.out hf
          refine ⟨k + 1, rfl, rfl, rfl, by omega, by go_num, by rw [if_neg (by omega)], by rw [t3]; rfl, by rw [t1]; rfl, ?_, HA4.out, HU4.out⟩
          rw [t2, HBE.out]; exact HO4.out
        case measure => simp [intOf]; omega
      · have hf2 : i + 1 < n := by omega
        have HU3 := HU
        have HR3 := HR
        have HO3 := HZ
        have e : ((c - 48 : Nat) : Int) = (c : Int) - 48 := by omega
        have HEQ : Hid (((D * b + (c - 48) : Nat) : Int) = (D : Int) * (b : Int) + ((c : Int) - 48)) := Lib.hid (by rw [Int.natCast_add, Int.natCast_mul, e])
        clear CW2 HU HR HZ e
        go_wp2_with fail
        with_reducible refine (CN.out wr HU3.out HR3.out).mono ?_
        rintro e w4 ⟨ch, err, rfl, ha4, hu4⟩
        have HA4 := Lib.hid ha4
        have HU4 := Lib.hid (HU3.out.trans hu4)
        have HO4 := Lib.hid (HO3.out.up hu4 hrb)
        clear ha4 hu4 CN HO3 HU3 HR3
        go_wp2_with fail
        go_roundw
        case rel =>
          obtain ⟨t1, t2, t3⟩ := HG.out hf2
          refine ⟨k + 1, rfl, rfl, rfl, by omega, by go_num, by rw [if_neg (by omega)], by rw [t3, HEQ.out], by rw [t1]; go_num, ?_, HA4.out, HU4.out⟩
          rw [t2]; exact HO4.out
        case measure => simp [intOf]; omega
    · subst s3
      have CW2 : Hid (Calls Tryz.prog 107 #[u0, u0, .int .u64 (B : Int), .int .u64 ((D : Int) * (b : Int) + ((c : Int) - 97 + 10))] wr (MwPost (zOf b n k ds * B + (D * b + (c - 97 + 10))) w.heap.size wr)) := by
        have e : ((c - 97 + 10 : Nat) : Int) = (c : Int) - 97 + 10 := by omega
        have := CW.out
        rw [Int.natCast_add, Int.natCast_mul, e] at this
        exact Lib.hid this
      clear CW
      by_cases hf : i + 1 = n
      · go_wp2_with fail
        with_reducible refine CW2.out.mono ?_
        rintro e w3 ⟨v3, rfl, ho3, hb3⟩
        have HR3 : Hid (Rdr w3 rb s (k + 1)) := by
          obtain ⟨p, hp⟩ := HR.out
          exact Lib.hid ⟨p, hp.below hb3 hrb⟩
        have HU3 : Hid (Up (some rb) w w3) := Lib.hid ⟨hb3.os.trans HU.out.os, hb3.tape.trans HU.out.tape, hb3.output.trans HU.out.output, Nat.le_trans HU.out.size hb3.size, fun q hq hne2 => (hb3.block q hq).trans (HU.out.block q hq hne2)⟩
        have HO3 := Lib.hid ho3
        clear hb3 ho3 CW2 HU HR HZ
        go_wp2_with fail
        with_reducible refine (CN.out w3 HU3.out HR3.out).mono ?_
        rintro e w4 ⟨ch, err, rfl, ha4, hu4⟩
        have HA4 := Lib.hid ha4
        have HU4 := Lib.hid (HU3.out.trans hu4)
        have HO4 := Lib.hid (HO3.out.up hu4 hrb)
        clear ha4 hu4 CN HO3 HU3 HR3
        go_wp2_with fail
        go_roundw
        case rel =>
          obtain ⟨t1, t2, t3⟩ := HF.out hf
          refine ⟨k + 1, rfl, rfl, rfl, by omega, by go_num, by rw [if_neg (by omega)], by rw [t3]; rfl, by rw [t1]; rfl, ?_, HA4.out, HU4.out⟩
          rw [t2, HBE.out]; exact HO4.out
        case measure => simp [intOf]; omega
      · have hf2 : i + 1 < n := by omega
        have HU3 := HU
        have HR3 := HR
        have HO3 := HZ
        have e : ((c - 97 + 10 : Nat) : Int) = (c : Int) - 97 + 10 := by omega
        have HEQ : Hid (((D * b + (c - 97 + 10) : Nat) : Int) = (D : Int) * (b : Int) + ((c : Int) - 97 + 10)) := Lib.hid (by rw [Int.natCast_add, Int.natCast_mul, e])
        clear CW2 HU HR HZ e
        go_wp2_with fail
        with_reducible refine (CN.out wr HU3.out HR3.out).mono ?_
        rintro e w4 ⟨ch, err, rfl, ha4, hu4⟩
        have HA4 := Lib.hid ha4
        have HU4 := Lib.hid (HU3.out.trans hu4)
        have HO4 := Lib.hid (HO3.out.up hu4 hrb)
        clear ha4 hu4 CN HO3 HU3 HR3
        go_wp2_with fail
        go_roundw
        case rel =>
          obtain ⟨t1, t2, t3⟩ := HG.out hf2
          refine ⟨k + 1, rfl, rfl, rfl, by omega, by go_num, by rw [if_neg (by omega)], by rw [t3, HEQ.out], by rw [t1]; go_num, ?_, HA4.out, HU4.out⟩
          rw [t2]; exact HO4.out
        case measure => simp [intOf]; omega
    · subst s3
      have CW2 : Hid (Calls Tryz.prog 107 #[u0, u0, .int .u64 (B : Int), .int .u64 ((D : Int) * (b : Int) + ((c : Int) - 65 + 10))] wr (MwPost (zOf b n k ds * B + (D * b + (c - 65 + 10))) w.heap.size wr)) := by
        have e : ((c - 65 + 10 : Nat) : Int) = (c : Int) - 65 + 10 := by omega
        have := CW.out
        rw [Int.natCast_add, Int.natCast_mul, e] at this
        exact Lib.hid this
      clear CW
      by_cases hf : i + 1 = n
      · go_wp2_with fail
        with_reducible refine CW2.out.mono ?_
        rintro e w3 ⟨v3, rfl, ho3, hb3⟩
        have HR3 : Hid (Rdr w3 rb s (k + 1)) := by
          obtain ⟨p, hp⟩ := HR.out
          exact Lib.hid ⟨p, hp.below hb3 hrb⟩
        have HU3 : Hid (Up (some rb) w w3) := Lib.hid ⟨hb3.os.trans HU.out.os, hb3.tape.trans HU.out.tape, hb3.output.trans HU.out.output, Nat.le_trans HU.out.size hb3.size, fun q hq hne2 => (hb3.block q hq).trans (HU.out.block q hq hne2)⟩
        have HO3 := Lib.hid ho3
        clear hb3 ho3 CW2 HU HR HZ
        go_wp2_with fail
        with_reducible refine (CN.out w3 HU3.out HR3.out).mono ?_
        rintro e w4 ⟨ch, err, rfl, ha4, hu4⟩
        have HA4 := Lib.hid ha4
        have HU4 := Lib.hid (HU3.out.trans hu4)
        have HO4 := Lib.hid (HO3.out.up hu4 hrb)
        clear ha4 hu4 CN HO3 HU3 HR3
        go_wp2_with fail
        go_roundw
        case rel =>
          obtain ⟨t1, t2, t3⟩ := HF.out hf
          refine ⟨k + 1, rfl, rfl, rfl, by omega, by go_num, by rw [if_neg (by omega)], by rw [t3]; rfl, by rw [t1]; rfl, ?_, HA4.out, HU4.out⟩
          rw [t2, HBE.out]; exact HO4.out
        case measure => simp [intOf]; omega
      · have hf2 : i + 1 < n := by omega
        have HU3 := HU
        have HR3 := HR
        have HO3 := HZ
        have e : ((c - 65 + 10 : Nat) : Int) = (c : Int) - 65 + 10 := by omega
        have HEQ : Hid (((D * b + (c - 65 + 10) : Nat) : Int) = (D : Int) * (b : Int) + ((c : Int) - 65 + 10)) := Lib.hid (by rw [Int.natCast_add, Int.natCast_mul, e])
        clear CW2 HU HR HZ e
        go_wp2_with fail
        with_reducible refine (CN.out wr HU3.out HR3.out).mono ?_
        rintro e w4 ⟨ch, err, rfl, ha4, hu4⟩
        have HA4 := Lib.hid ha4
        have HU4 := Lib.hid (HU3.out.trans hu4)
        have HO4 := Lib.hid (HO3.out.up hu4 hrb)
        clear ha4 hu4 CN HO3 HU3 HR3
        go_wp2_with fail
        go_roundw
        case rel =>
          obtain ⟨t1, t2, t3⟩ := HG.out hf2
          refine ⟨k + 1, rfl, rfl, rfl, by omega, by go_num, by rw [if_neg (by omega)], by rw [t3, HEQ.out], by rw [t1]; go_num, ?_, HA4.out, HU4.out⟩
          rw [t2]; exact HO4.out
        case measure => simp [intOf]; omega
    -- END ARMS
  · obtain rfl : k = ds.length := by omega
    have HZ := Lib.hid hz
    have HU := Lib.hid hu
    by_cases hend : ds.length = s.size
    · obtain ⟨rfl, rfl, hr⟩ : u15 = .int .u8 0 ∧ u11 = E ∧ Rdr wr rb s s.size := by
        rcases hah with ⟨h, _⟩ | ⟨_, h⟩
        · omega
        · exact h
      have HR := Lib.hid hr
      have hc : wr.cell? ⟨1, 0, none⟩ = some u11 := hu.cell HE.out (by intro e; injection e with e; exact hne e.symm)
      obtain rfl := HEE.out
      have hcnt : ((ds.length : Int) == 0) = false := by rw [beq_eq_false_iff_ne]; omega
      have hif : (if ds.length = 0 then (46 : Int) else 48) = 48 := by rw [if_neg (by omega)]
      rw [hif]
      have hdo := dOf_lt b n ds.length ds (Nat.le_refl _) (fun d hd => by
        obtain ⟨q, hq, rfl⟩ := List.getElem_of_mem hd
        have := (HD.out q (by omega) hq).2
        rwa [List.getD_eq_getElem?_getD, List.getElem?_eq_getElem hq, Option.getD_some] at this)
      have hch := chunk_all b n ds.length ds (Nat.le_refl _) (by omega)
      rw [List.take_length] at hch
      have hzl : zOf b n ds.length ds < lim := by
        have := zOf_le b n ds.length ds (Nat.le_refl _) (by omega) (by omega)
        rw [List.take_length] at this
        omega
      have hil := Nat.mod_lt ds.length (show 0 < n by omega)
      clear hah hr hif
      generalize hD : dOf b n ds.length ds = D at *
      generalize hi : ds.length % n = i at *
      have HDI := Lib.hid (And.intro hD hi)
      clear hD hi
      have hee := eql_err wr eP
      by_cases hi0 : i = 0
      · subst hi0
        have hD0 : hval b ds = zOf b n ds.length ds := by
          rw [Nat.pow_zero] at hdo hch; omega
        have HOZ : Hid (OwnN wr w.heap.size u0 (hval b ds)) := Lib.hid (by rw [hD0]; exact hz)
        clear hz hu hdo hch hzl hD0
        go_wp2_with fail
        refine bodyPost_ret (results_tmp4 rfl _ _ _) rfl ?_
        exact ⟨u0, _, by rw [hend]; rfl, HU.out, .inl ⟨hend, rfl, HOZ.out, HR.out⟩⟩
      · have hi1 : (0 : Int) < (i : Int) := by omega
        have hbi : b ^ i ≤ B := by rw [← HBE.out]; exact Nat.pow_le_pow_right (by omega) (by omega)
        have hb64 : b ^ i < 18446744073709551616 := Nat.lt_of_le_of_lt hbi HBN.out
        have CP := Lib.hid (pow_any b i wr (by omega) (by omega) hb64)
        have CW := Lib.hid (mulAddWW_own (zOf b n ds.length ds) (b ^ i) D w.heap.size u0 wr hz hzl hu.size (Nat.pow_pos (by omega)) hb64 (Nat.lt_trans hdo hb64))
        rw [← hch] at CW
        clear hz hu hdo hch hzl hbi hb64
        generalize b ^ i = Q at *
        go_wp2_with fail
        with_reducible refine CP.out.mono ?_
        rintro e w3 ⟨rfl, rfl⟩
        go_wp2_with fail
        with_reducible refine CW.out.mono ?_
        rintro e w4 ⟨v4, rfl, ho4, hb4⟩
        have HO4 := Lib.hid ho4
        have HR4 : Hid (Rdr w4 rb s s.size) := by
          obtain ⟨p, hp⟩ := HR.out
          exact Lib.hid ⟨p, hp.below hb4 hrb⟩
        have HU4 : Hid (Up (some rb) w w4) := Lib.hid ⟨hb4.os.trans HU.out.os, hb4.tape.trans HU.out.tape, hb4.output.trans HU.out.output, Nat.le_trans HU.out.size hb4.size, fun q hq hne2 => (hb4.block q hq).trans (HU.out.block q hq hne2)⟩
        clear ho4 hb4 CP CW
        go_wp2_with fail
        refine bodyPost_ret (results_tmp4 rfl _ _ _) rfl ?_
        exact ⟨v4, _, by rw [hend]; rfl, HU4.out, .inl ⟨hend, rfl, HO4.out, HR4.out⟩⟩
    · have hlt : ds.length < s.size := by omega
      obtain ⟨h3, rfl, rfl, hr⟩ : ∃ h : ds.length < s.size, u15 = .int .u8 (((s[ds.length]'h).toNat : Nat) : Int) ∧ u11 = .nilIface ∧ Rdr wr rb s (ds.length + 1) := by
        rcases hah with h | ⟨h, _⟩
        · exact h
        · omega
      have hx := HBAD.out h3
      clear hah
      generalize (s[ds.length]'h3).toNat = c at *
      have hsg : (b < 10 ∧ c = 48 + b) ∨ (10 ≤ b ∧ c = 87 + b) := by unfold sgnOf at hx; split at hx <;> omega
      have c1 : ((c : Int) == 46) = false := by rw [beq_eq_false_iff_ne]; omega
      have c2 : ((c : Int) == 95) = false := by rw [beq_eq_false_iff_ne]; omega
      have hspan : (48 ≤ c ∧ c ≤ 57 ∧ c = 48 + b) ∨ (97 ≤ c ∧ c ≤ 122 ∧ c = 87 + b) ∨ (c = 123 ∧ b = 36) := by omega
      clear hx hsg
      have HR := Lib.hid hr
      have CU := Lib.hid (fun W (h' : Rdr W rb s (ds.length + 1)) => unreadByte_any rb s ds.length W h' (by omega))
      have hdo := dOf_lt b n ds.length ds (Nat.le_refl _) (fun d hd => by
        obtain ⟨q, hq, rfl⟩ := List.getElem_of_mem hd
        have := (HD.out q (by omega) hq).2
        rwa [List.getD_eq_getElem?_getD, List.getElem?_eq_getElem hq, Option.getD_some] at this)
      have hch := chunk_all b n ds.length ds (Nat.le_refl _) (by omega)
      rw [List.take_length] at hch
      have hzl : zOf b n ds.length ds < lim := by
        have := zOf_le b n ds.length ds (Nat.le_refl _) (by omega) (by omega)
        rw [List.take_length] at this
        omega
      have hil := Nat.mod_lt ds.length (show 0 < n by omega)
      have hk0 : ds.length = 0 → ds.length % n = 0 := fun h => by rw [h]; exact Nat.zero_mod n
      have hEe : Hid (∀ W, Up (some rb) w W → W.cell? ⟨1, 0, none⟩ = some E) := Lib.hid (fun W hU => hU.cell HE.out (by intro e; injection e with e; exact hne e.symm))
      have hNe : Hid (∀ W, Up (some rb) w W → W.cell? ⟨7, 0, none⟩ = some (.iface 178 (.pointer (some nP)))) := Lib.hid (fun W hU => hU.cell HN.out (by intro e; injection e with e; exact hne2 e.symm))
      clear hr
      generalize hD : dOf b n ds.length ds = D at *
      generalize hi : ds.length % n = i at *
      have HDI := Lib.hid (And.intro hD hi)
      clear hD hi
      have HDO := Lib.hid hdo
      have HCH := Lib.hid hch
      have HZL := Lib.hid hzl
      have HK0 := Lib.hid hk0
      clear hz hu hdo hch hzl hk0
      rcases hspan with ⟨s1, s2, s3⟩ | ⟨s1, s2, s3⟩ | ⟨s3, s4⟩
      · have hge : (b : Int) ≤ (c : Int) - 48 := by omega
        clear s3
        by_cases hl0 : ds.length = 0
        · have hi0 := HK0.out hl0
          subst hi0
          have hcnt : ((ds.length : Int) == 0) = true := by rw [hl0]; rfl
          have hif : (if ds.length = 0 then (46 : Int) else 48) = 46 := by rw [if_pos hl0]
          rw [hif]
          have HL0 := Lib.hid hl0
          clear hl0 hif
          go_wp2_with fail
          with_reducible refine (CU.out wr HR.out).mono ?_
          rintro e w3 ⟨rfl, hr3, hu3⟩
          have HR3 := Lib.hid hr3
          have HU3 := Lib.hid (HU.out.trans hu3)
          have HZ3 := Lib.hid (HZ.out.up hu3 hrb)
          have hcE := hEe.out w3 HU3.out
          have hnl := eql_nil w3 eP
          obtain rfl := HEE.out
          clear hr3 hu3 HR HU HZ CU hge
          have hcN := hNe.out w3 HU3.out
          go_wp2_with fail
          refine bodyPost_ret (results_tmp4 rfl _ _ _) rfl ?_
          exact ⟨u0, _, rfl, HU3.out, .inr ⟨hlt, .inr rfl, ⟨_, HZ3.out⟩, HR3.out⟩⟩
        · have hcnt : ((ds.length : Int) == 0) = false := by rw [beq_eq_false_iff_ne]; omega
          have hif : (if ds.length = 0 then (46 : Int) else 48) = 48 := by rw [if_neg hl0]
          rw [hif]
          clear hif
          by_cases hi0 : i = 0
          · subst hi0
            go_wp2_with fail
            with_reducible refine (CU.out wr HR.out).mono ?_
            rintro e w3 ⟨rfl, hr3, hu3⟩
            have HR3 := Lib.hid hr3
            have HU3 := Lib.hid (HU.out.trans hu3)
            have HZ3 := Lib.hid (HZ.out.up hu3 hrb)
            have hcE := hEe.out w3 HU3.out
            have hnl := eql_nil w3 eP
            obtain rfl := HEE.out
            clear hr3 hu3 HR HU HZ CU hge
            go_wp2_with fail
            refine bodyPost_ret (results_tmp4 rfl _ _ _) rfl ?_
            exact ⟨u0, _, rfl, HU3.out, .inr ⟨hlt, .inl rfl, ⟨_, HZ3.out⟩, HR3.out⟩⟩
          · go_wp2_with fail
            with_reducible refine (CU.out wr HR.out).mono ?_
            rintro e w3 ⟨rfl, hr3, hu3⟩
            have HR3 := Lib.hid hr3
            have HU3 := Lib.hid (HU.out.trans hu3)
            have HZ3 := Lib.hid (HZ.out.up hu3 hrb)
            have hcE := hEe.out w3 HU3.out
            have hnl := eql_nil w3 eP
            obtain rfl := HEE.out
            clear hr3 hu3 HR HU HZ CU hge
            have hi1 : (0 : Int) < (i : Int) := by omega
            have hbi : b ^ i ≤ B := by rw [← HBE.out]; exact Nat.pow_le_pow_right (by omega) (by omega)
            have hb64 : b ^ i < 18446744073709551616 := Nat.lt_of_le_of_lt hbi HBN.out
            have CP := Lib.hid (pow_any b i w3 (by omega) (by omega) hb64)
            have CW := Lib.hid (mulAddWW_own (zOf b n ds.length ds) (b ^ i) D w.heap.size u0 w3 HZ3.out HZL.out HU3.out.size (Nat.pow_pos (by omega)) hb64 (Nat.lt_trans HDO.out hb64))
            clear hbi hb64
            generalize b ^ i = Q at *
            go_wp2_with fail
            with_reducible refine CP.out.mono ?_
            rintro e w4 ⟨rfl, rfl⟩
            go_wp2_with fail
            with_reducible refine CW.out.mono ?_
            rintro e w5 ⟨v5, rfl, ho5, hb5⟩
            have HO5 := Lib.hid ho5
            have HR5 : Hid (Rdr w5 rb s ds.length) := by
              obtain ⟨p, hp⟩ := HR3.out
              exact Lib.hid ⟨p, hp.below hb5 hrb⟩
            have HU5 : Hid (Up (some rb) w w5) := Lib.hid ⟨hb5.os.trans HU3.out.os, hb5.tape.trans HU3.out.tape, hb5.output.trans HU3.out.output, Nat.le_trans HU3.out.size hb5.size, fun q hq hne2 => (hb5.block q hq).trans (HU3.out.block q hq hne2)⟩
            clear ho5 hb5 CP CW
            go_wp2_with fail
            refine bodyPost_ret (results_tmp4 rfl _ _ _) rfl ?_
            exact ⟨v5, _, rfl, HU5.out, .inr ⟨hlt, .inl rfl, ⟨_, HO5.out⟩, HR5.out⟩⟩
      · have hge : (b : Int) ≤ (c : Int) - 97 + 10 := by omega
        clear s3
        by_cases hl0 : ds.length = 0
        · have hi0 := HK0.out hl0
          subst hi0
          have hcnt : ((ds.length : Int) == 0) = true := by rw [hl0]; rfl
          have hif : (if ds.length = 0 then (46 : Int) else 48) = 46 := by rw [if_pos hl0]
          rw [hif]
          have HL0 := Lib.hid hl0
          clear hl0 hif
          go_wp2_with fail
          with_reducible refine (CU.out wr HR.out).mono ?_
          rintro e w3 ⟨rfl, hr3, hu3⟩
          have HR3 := Lib.hid hr3
          have HU3 := Lib.hid (HU.out.trans hu3)
          have HZ3 := Lib.hid (HZ.out.up hu3 hrb)
          have hcE := hEe.out w3 HU3.out
          have hnl := eql_nil w3 eP
          obtain rfl := HEE.out
          clear hr3 hu3 HR HU HZ CU hge
          have hcN := hNe.out w3 HU3.out
          go_wp2_with fail
          refine bodyPost_ret (results_tmp4 rfl _ _ _) rfl ?_
          exact ⟨u0, _, rfl, HU3.out, .inr ⟨hlt, .inr rfl, ⟨_, HZ3.out⟩, HR3.out⟩⟩
        · have hcnt : ((ds.length : Int) == 0) = false := by rw [beq_eq_false_iff_ne]; omega
          have hif : (if ds.length = 0 then (46 : Int) else 48) = 48 := by rw [if_neg hl0]
          rw [hif]
          clear hif
          by_cases hi0 : i = 0
          · subst hi0
            go_wp2_with fail
            with_reducible refine (CU.out wr HR.out).mono ?_
            rintro e w3 ⟨rfl, hr3, hu3⟩
            have HR3 := Lib.hid hr3
            have HU3 := Lib.hid (HU.out.trans hu3)
            have HZ3 := Lib.hid (HZ.out.up hu3 hrb)
            have hcE := hEe.out w3 HU3.out
            have hnl := eql_nil w3 eP
            obtain rfl := HEE.out
            clear hr3 hu3 HR HU HZ CU hge
            go_wp2_with fail
            refine bodyPost_ret (results_tmp4 rfl _ _ _) rfl ?_
            exact ⟨u0, _, rfl, HU3.out, .inr ⟨hlt, .inl rfl, ⟨_, HZ3.out⟩, HR3.out⟩⟩
          · go_wp2_with fail
            with_reducible refine (CU.out wr HR.out).mono ?_
            rintro e w3 ⟨rfl, hr3, hu3⟩
            have HR3 := Lib.hid hr3
            have HU3 := Lib.hid (HU.out.trans hu3)
            have HZ3 := Lib.hid (HZ.out.up hu3 hrb)
            have hcE := hEe.out w3 HU3.out
            have hnl := eql_nil w3 eP
            obtain rfl := HEE.out
            clear hr3 hu3 HR HU HZ CU hge
            have hi1 : (0 : Int) < (i : Int) := by omega
            have hbi : b ^ i ≤ B := by rw [← HBE.out]; exact Nat.pow_le_pow_right (by omega) (by omega)
            have hb64 : b ^ i < 18446744073709551616 := Nat.lt_of_le_of_lt hbi HBN.out
            have CP := Lib.hid (pow_any b i w3 (by omega) (by omega) hb64)
            have CW := Lib.hid (mulAddWW_own (zOf b n ds.length ds) (b ^ i) D w.heap.size u0 w3 HZ3.out HZL.out HU3.out.size (Nat.pow_pos (by omega)) hb64 (Nat.lt_trans HDO.out hb64))
            clear hbi hb64
            generalize b ^ i = Q at *
            go_wp2_with fail
            with_reducible refine CP.out.mono ?_
            rintro e w4 ⟨rfl, rfl⟩
            go_wp2_with fail
            with_reducible refine CW.out.mono ?_
            rintro e w5 ⟨v5, rfl, ho5, hb5⟩
            have HO5 := Lib.hid ho5
            have HR5 : Hid (Rdr w5 rb s ds.length) := by
              obtain ⟨p, hp⟩ := HR3.out
              exact Lib.hid ⟨p, hp.below hb5 hrb⟩
            have HU5 : Hid (Up (some rb) w w5) := Lib.hid ⟨hb5.os.trans HU3.out.os, hb5.tape.trans HU3.out.tape, hb5.output.trans HU3.out.output, Nat.le_trans HU3.out.size hb5.size, fun q hq hne2 => (hb5.block q hq).trans (HU3.out.block q hq hne2)⟩
            clear ho5 hb5 CP CW
            go_wp2_with fail
            refine bodyPost_ret (results_tmp4 rfl _ _ _) rfl ?_
            exact ⟨v5, _, rfl, HU5.out, .inr ⟨hlt, .inl rfl, ⟨_, HO5.out⟩, HR5.out⟩⟩
      · have hge : (b : Int) ≤ 63 := by omega
        clear s4
        subst s3
        by_cases hl0 : ds.length = 0
        · have hi0 := HK0.out hl0
          subst hi0
          have hcnt : ((ds.length : Int) == 0) = true := by rw [hl0]; rfl
          have hif : (if ds.length = 0 then (46 : Int) else 48) = 46 := by rw [if_pos hl0]
          rw [hif]
          have HL0 := Lib.hid hl0
          clear hl0 hif
          go_wp2_with fail
          with_reducible refine (CU.out wr HR.out).mono ?_
          rintro e w3 ⟨rfl, hr3, hu3⟩
          have HR3 := Lib.hid hr3
          have HU3 := Lib.hid (HU.out.trans hu3)
          have HZ3 := Lib.hid (HZ.out.up hu3 hrb)
          have hcE := hEe.out w3 HU3.out
          have hnl := eql_nil w3 eP
          obtain rfl := HEE.out
          clear hr3 hu3 HR HU HZ CU hge
          have hcN := hNe.out w3 HU3.out
          go_wp2_with fail
          refine bodyPost_ret (results_tmp4 rfl _ _ _) rfl ?_
          exact ⟨u0, _, rfl, HU3.out, .inr ⟨hlt, .inr rfl, ⟨_, HZ3.out⟩, HR3.out⟩⟩
        · have hcnt : ((ds.length : Int) == 0) = false := by rw [beq_eq_false_iff_ne]; omega
          have hif : (if ds.length = 0 then (46 : Int) else 48) = 48 := by rw [if_neg hl0]
          rw [hif]
          clear hif
          by_cases hi0 : i = 0
          · subst hi0
            go_wp2_with fail
            with_reducible refine (CU.out wr HR.out).mono ?_
            rintro e w3 ⟨rfl, hr3, hu3⟩
            have HR3 := Lib.hid hr3
            have HU3 := Lib.hid (HU.out.trans hu3)
            have HZ3 := Lib.hid (HZ.out.up hu3 hrb)
            have hcE := hEe.out w3 HU3.out
            have hnl := eql_nil w3 eP
            obtain rfl := HEE.out
            clear hr3 hu3 HR HU HZ CU hge
            go_wp2_with fail
            refine bodyPost_ret (results_tmp4 rfl _ _ _) rfl ?_
            exact ⟨u0, _, rfl, HU3.out, .inr ⟨hlt, .inl rfl, ⟨_, HZ3.out⟩, HR3.out⟩⟩
          · go_wp2_with fail
            with_reducible refine (CU.out wr HR.out).mono ?_
            rintro e w3 ⟨rfl, hr3, hu3⟩
            have HR3 := Lib.hid hr3
            have HU3 := Lib.hid (HU.out.trans hu3)
            have HZ3 := Lib.hid (HZ.out.up hu3 hrb)
            have hcE := hEe.out w3 HU3.out
            have hnl := eql_nil w3 eP
            obtain rfl := HEE.out
            clear hr3 hu3 HR HU HZ CU hge
            have hi1 : (0 : Int) < (i : Int) := by omega
            have hbi : b ^ i ≤ B := by rw [← HBE.out]; exact Nat.pow_le_pow_right (by omega) (by omega)
            have hb64 : b ^ i < 18446744073709551616 := Nat.lt_of_le_of_lt hbi HBN.out
            have CP := Lib.hid (pow_any b i w3 (by omega) (by omega) hb64)
            have CW := Lib.hid (mulAddWW_own (zOf b n ds.length ds) (b ^ i) D w.heap.size u0 w3 HZ3.out HZL.out HU3.out.size (Nat.pow_pos (by omega)) hb64 (Nat.lt_trans HDO.out hb64))
            clear hbi hb64
            generalize b ^ i = Q at *
            go_wp2_with fail
            with_reducible refine CP.out.mono ?_
            rintro e w4 ⟨rfl, rfl⟩
            go_wp2_with fail
            with_reducible refine CW.out.mono ?_
            rintro e w5 ⟨v5, rfl, ho5, hb5⟩
            have HO5 := Lib.hid ho5
            have HR5 : Hid (Rdr w5 rb s ds.length) := by
              obtain ⟨p, hp⟩ := HR3.out
              exact Lib.hid ⟨p, hp.below hb5 hrb⟩
            have HU5 : Hid (Up (some rb) w w5) := Lib.hid ⟨hb5.os.trans HU3.out.os, hb5.tape.trans HU3.out.tape, hb5.output.trans HU3.out.output, Nat.le_trans HU3.out.size hb5.size, fun q hq hne2 => (hb5.block q hq).trans (HU3.out.block q hq hne2)⟩
            clear ho5 hb5 CP CW
            go_wp2_with fail
            refine bodyPost_ret (results_tmp4 rfl _ _ _) rfl ?_
            exact ⟨v5, _, rfl, HU5.out, .inr ⟨hlt, .inl rfl, ⟨_, HO5.out⟩, HR5.out⟩⟩
end Go.Proofs.YtbfgjaammmpcdaaGreatDoor
