/- nat.scan in the base 2, which packs words (printed by genpack.py). -/
import Derived.Test.YtbfgjaammmpcdaaGreatDoorPackEnd
import Derived.Maps.AppendAt
namespace Go.Proofs.YtbfgjaammmpcdaaGreatDoor
open Go.RowKit Dig
set_option linter.unusedVariables false
set_option linter.unusedSimpArgs false
set_option maxRecDepth 100000

set_option maxHeartbeats 3200000 in
theorem natPack2 (rb : Nat) (s : ByteArray) (ds : List Nat) (eP nP : Addr) (w : World) (h : Rdr w rb s 0) (ht : NumTxt 2 s ds) (hg : NumGl eP nP rb w) :
    Calls Tryz.prog 111 #[.slice none 0 0, .iface 99 (.pointer (some ⟨rb, 0, none⟩)), .int .i64 2, .bool false] w (NaPost 2 rb s ds nP w) := by
  obtain ⟨i0, hi0, hz0, hz1, hz2⟩ := info_parts infoW
  obtain ⟨E, hEE⟩ : ∃ E : Value, E = (.iface 178 (.pointer (some eP))) := ⟨_, rfl⟩
  have hE := hg.eof
  rw [← hEE] at hE
  have HEE := Lib.hid hEE
  have HN := Lib.hid hg.nod
  have hne := hg.ne1
  have hne2 := hg.ne2
  have hrb := h.lt
  have hk := ht.pos
  have hdl := ht.len
  have hs9 := ht.size
  have hs : s.size ≤ 1048576 := by omega
  have HD := Lib.hid ht.dig
  have HBAD := Lib.hid ht.bad
  have C1 := Lib.hid (readByte_yes rb s 0 _ w h hk rfl hs)
  have HE := Lib.hid hE
  clear h ht hg hE hEE
  generalize hx : (s[0]'hk).toNat = x at C1
  go_enter Tryz.func111, Tryz.ntmps111
  go_wp2_with fail
  with_reducible refine C1.out.mono ?_
  rintro e w1 ⟨rfl, hr1, hu1⟩
  have HST : Hid (PkRel 2 64 rb s ds E w (.slice none 0 0) (.bool false) (.int .i64 0) .nilIface (.int .i32 46) (.bool false) (.int .u8 (x : Int)) (.int .u64 0) (.int .i64 0) (.int .i64 (-1)) w1) := Lib.hid ⟨0, [], rfl, rfl, rfl, Nat.zero_le _, rfl, rfl, by rw [dOf_zero]; rfl, rfl, ⟨rfl, .inl ⟨rfl, rfl⟩⟩, Nat.le_refl _, by simp, by rw [zOf_zero]; rfl, .inl ⟨hk, by rw [hx], rfl, hr1⟩, hu1⟩
  clear hr1 hu1 C1 hx
  go_wp2_with fail
  go_loopw [0, 3, 10, 11, 13, 14, 15, 20, 21, 22] (PkRel 2 64 rb s ds E w) (fun _ _ c _ _ _ _ _ _ _ _ => ds.length - (intOf c).toNat)
  case atStart => exact HST.out
  obtain ⟨k, ws, rfl, rfl, rfl, hkd, rfl, rfl, rfl, rfl, ho, hwl, hws, hhv, hah, hu⟩ := hrel
  clear HST
  have HW := Lib.hid hws
  have HV := Lib.hid hhv
  have HO := Lib.hid ho
  have HU := Lib.hid hu
  clear hws hhv ho
  have hsz := hu.size
  clear hu
  by_cases hkl : k < ds.length
  · have hks : k < s.size := by omega
    obtain ⟨hdig, hdb⟩ := HD.out k hks hkl
    obtain ⟨h3, rfl, rfl, hr⟩ : ∃ h : k < s.size, u15 = .int .u8 (((s[k]'h).toNat : Nat) : Int) ∧ u11 = .nilIface ∧ Rdr wr rb s (k + 1) := by
      rcases hah with h | ⟨h, _⟩
      · exact h
      · omega
    obtain ⟨z1, z2, z3, z4⟩ := hdig.not
    have hspan := hdig.span
    have hdo := dOf_lt 2 64 k ds (by omega) (fun d hd => by
      obtain ⟨q, hq, rfl⟩ := List.getElem_of_mem hd
      have := (HD.out q (by omega) hq).2
      rwa [List.getD_eq_getElem?_getD, List.getElem?_eq_getElem hq, Option.getD_some] at this)
    have CN := Lib.hid (fun W (hu : Up (some rb) w W) (h : Rdr W rb s (k + 1)) => readNext rb (k + 1) s E w W hu h (by omega) hs HE.out hne)
    generalize (s[k]'h3).toNat = c at *
    have c1 : ((c : Int) == 46) = false := by rw [beq_eq_false_iff_ne]; omega
    have c2 : ((c : Int) == 95) = false := by rw [beq_eq_false_iff_ne]; omega
    have hdk : ds[k]? = some (ds.getD k 0) := by rw [List.getD_eq_getElem?_getD, List.getElem?_eq_getElem hkl]; rfl
    have hil := Nat.mod_lt k (show 0 < 64 by omega)
    have hDd : dOf 2 64 k ds * 2 + ds.getD k 0 < 18446744073709551616 := by
      have h5 : (dOf 2 64 k ds + 1) * 2 ≤ 2 ^ (k % 64) * 2 := Nat.mul_le_mul_right _ hdo
      have h6 : 2 ^ (k % 64) * 2 ≤ 2 ^ 64 := by
        rw [← Nat.pow_succ]
        exact Nat.pow_le_pow_right (by omega) hil
      have h7 : (2 : Nat) ^ 64 = 18446744073709551616 := by decide
      rw [h7] at h6
      rw [Nat.add_mul] at h5
      omega
    have HR := Lib.hid hr
    have HG := Lib.hid (chunk_go 2 64 k _ ds (by omega) hdk)
    have HF := Lib.hid (chunk_full 2 64 k _ ds (by omega) hdk)
    rw [show (2 : Nat) ^ 64 = 18446744073709551616 by decide] at HF
    clear hr hah hdo hdk hdig
    generalize ds.getD k 0 = d at *
    generalize hD : dOf 2 64 k ds = D at *
    generalize hi : k % 64 = i at *
    have HDI := Lib.hid (And.intro hD hi)
    clear hD hi
    rcases hspan with ⟨s1, s2, s3⟩ | ⟨s1, s2, s3⟩ | ⟨s1, s2, s3⟩
    · subst s3
      have hdn : c - 48 < 2 := hdb
      have e : ((c - 48 : Nat) : Int) = (c : Int) - 48 := by omega
      have HEQ : Hid (((D * 2 + (c - 48) : Nat) : Int) = (D : Int) * 2 + ((c : Int) - 48)) := Lib.hid (by rw [Int.natCast_add, Int.natCast_mul, e]; rfl)
      have HDL : Hid (D * 2 + (c - 48) < 18446744073709551616) := Lib.hid hDd
      clear e
      by_cases hf : i + 1 = 64
      · have HWS := Lib.hid (pk_more HW.out HDL.out)
        have HHV : Hid (hval 18446744073709551616 (ws ++ [D * 2 + (c - 48)]) = zOf 2 64 (k + 1) ds) := Lib.hid (by
          rw [hval_snoc, HV.out, (HF.out hf).2.1])
        go_wp2_with (at_builtin; (refine wpList_append_own_at _ ?qdz_g (.tmp 193) (.tmp 195) 69 ?qdz_ho w.heap.size 102 i0 (.int .u64 0) 1 8 ?qdz_ht ?qdz_hi ?qdz_hz ?qdz_hsize ?qdz_hby ?qdz_hzs ?qdz_hsz u0 ws.length (ws.map wv) ?qdz_hs ?qdz_A ⟨wr.heap.size, 0, none⟩ 1 1 [.int .u64 ((D : Int) * 2 + ((c : Int) - 48))] ?qdz_hx ?qdz_hl ?qdz_hn ?qdz_h1 ?qdz_D ?qdz_E ?qdz_F ?qdz_G))
        try case qdz_g => rfl
        try case qdz_ho => rfl
        try case qdz_ht => exact Tryz.underlying69
        try case qdz_hi => exact hi0
        try case qdz_hz => exact hz0
        try case qdz_hsize => exact hz1
        try case qdz_hby => exact hz2
        try case qdz_hzs => rfl
        try case qdz_hsz => exact Nat.one_pos
        try case qdz_hs => rfl
        try case qdz_A => exact HO.out.alloc _
        try case qdz_hx => rfl
        try case qdz_hn => exact cell_one_new _ _ _
        try case qdz_hl => rfl
        try case qdz_h1 => simp [Value.oneCell']
        try case qdz_D => first | (simp [maxLen]; done) | (simp [maxLen]; omega)
        try case qdz_E => omega
        try case qdz_F => first | omega | (simp; done) | (simp; omega)
        intro v' w3 h1 h2 _ h4
        have h1' : w3.ownsRow w.heap.size 102 1 v' (ws ++ [D * 2 + (c - 48)]).length ((ws ++ [D * 2 + (c - 48)]).map wv) := by
          rw [List.length_append, List.map_append]
          have e2 : [D * 2 + (c - 48)].map wv = [.int .u64 ((D : Int) * 2 + ((c : Int) - 48))] := by rw [← HEQ.out]; rfl
          rw [e2]; exact h1
        have hob : ∀ q, u0.ownBlock = some q → w.heap.size ≤ q := fun q hq => (HO.out.lt q hq).1
        have HO3 := Lib.hid h1'
        have HR3 : Hid (Rdr w3 rb s (k + 1)) := Lib.hid (by
          obtain ⟨p, hp⟩ := HR.out
          exact Rdr.grown ⟨p, hp.alloc _⟩ h2 (fun e => by have := hob rb e; omega))
        have HU3 : Hid (Up (some rb) w w3) := Lib.hid (up_grown (HU.out.alloc _) h2 hob)
        clear h1 h1' h2 h4 hob HO HR HU
        go_wp2_with fail
        with_reducible refine (CN.out w3 HU3.out HR3.out).mono ?_
        rintro e w4 ⟨ch, err, rfl, ha4, hu4⟩
        have HA4 := Lib.hid ha4
        have HU4 := Lib.hid (HU3.out.trans hu4)
        have HO4 := Lib.hid (HO3.out.kept hu4 (.inr (fun e => by have := (HO3.out.lt rb e).1; omega)))
        clear ha4 hu4 CN HO3 HU3 HR3
        go_wp2_with fail
        go_roundw
        case rel =>
          obtain ⟨t1, t2, t3⟩ := HF.out hf
          exact ⟨k + 1, ws ++ [D * 2 + (c - 48)], rfl, rfl, rfl, by omega, by go_num, by rw [if_neg (by omega)], by rw [t3]; rfl, by rw [t1]; rfl, HO4.out, by rw [List.length_append]; have := hwl; simp; omega, HWS.out, HHV.out, HA4.out, HU4.out⟩
        case measure => simp [intOf]; omega
      · have hf2 : i + 1 < 64 := by omega
        have hf3 : ((i : Int) + 1 == 64) = false := by rw [beq_eq_false_iff_ne]; omega
        go_wp2_with fail
        with_reducible refine (CN.out wr HU.out HR.out).mono ?_
        rintro e w4 ⟨ch, err, rfl, ha4, hu4⟩
        have HA4 := Lib.hid ha4
        have HU4 := Lib.hid (HU.out.trans hu4)
        have HO4 := Lib.hid (HO.out.kept hu4 (.inr (fun e => by have := (HO.out.lt rb e).1; omega)))
        clear ha4 hu4 CN HO HU HR
        go_wp2_with fail
        go_roundw
        case rel =>
          obtain ⟨t1, t2, t3⟩ := HG.out hf2
          exact ⟨k + 1, ws, rfl, rfl, rfl, by omega, by go_num, by rw [if_neg (by omega)], by rw [t3, HEQ.out], by rw [t1]; go_num, HO4.out, by omega, HW.out, by rw [t2]; exact HV.out, HA4.out, HU4.out⟩
        case measure => simp [intOf]; omega
    · omega
    · omega
  · obtain rfl : k = ds.length := by omega
    by_cases hend : ds.length = s.size
    · obtain ⟨rfl, rfl, hr⟩ : u15 = .int .u8 0 ∧ u11 = E ∧ Rdr wr rb s s.size := by
        rcases hah with ⟨h, _⟩ | ⟨_, h⟩
        · omega
        · exact h
      have HR := Lib.hid hr
      have hc : wr.cell? ⟨1, 0, none⟩ = some u11 := HU.out.cell HE.out (by intro e; injection e with e; exact hne e.symm)
      obtain rfl := HEE.out
      have hcnt : ((ds.length : Int) == 0) = false := by rw [beq_eq_false_iff_ne]; omega
      have hif : (if ds.length = 0 then (46 : Int) else 48) = 48 := by rw [if_neg (by omega)]
      rw [hif]
      clear hah hr hif
      have hdo := dOf_lt 2 64 ds.length ds (Nat.le_refl _) (fun d hd => by
        obtain ⟨q, hq, rfl⟩ := List.getElem_of_mem hd
        have := (HD.out q (by omega) hq).2
        rwa [List.getD_eq_getElem?_getD, List.getElem?_eq_getElem hq, Option.getD_some] at this)
      have hch := chunk_all 2 64 ds.length ds (Nat.le_refl _) (by omega)
      rw [List.take_length] at hch
      have hil := Nat.mod_lt ds.length (show 0 < 64 by omega)
      have hk0 : ds.length = 0 → ds.length % 64 = 0 := fun h => by rw [h]
      generalize hD : dOf 2 64 ds.length ds = D at *
      generalize hi : ds.length % 64 = i at *
      have HDI := Lib.hid (And.intro hD hi)
      clear hD hi
      have HDO := Lib.hid hdo
      have HCH : Hid (zOf 2 64 ds.length ds * 2 ^ i + D = hval 2 ds) := Lib.hid hch.symm
      have HK0 := Lib.hid hk0
      clear hdo hch hk0
      have hee := eql_err wr eP
      have HEND := Lib.hid hend
      by_cases hin0 : i = 0
      · subst hin0
        have HV0 : Hid (hval 18446744073709551616 ws = hval 2 ds) := Lib.hid (by
          have h1 := HDO.out
          have h2 := HCH.out
          rw [Nat.pow_zero] at h1 h2
          rw [HV.out, ← h2]; omega)
        clear HV
        have HV := HV0
        have CR := Lib.hid (revW_own w.heap.size ws.length u0 ws wr rfl (by omega) HO.out)
        go_wp2_with fail
        with_reducible refine CR.out.mono ?_
        rintro e w5 ⟨rfl, ho5, hg5⟩
        have hob : ∀ q, u0.ownBlock = some q → w.heap.size ≤ q := fun q hq => (HO.out.lt q hq).1
        have HU5 := Lib.hid (up_grown HU.out hg5 hob)
        have HR5 := Lib.hid (HR.out.grown hg5 (fun e => by have := hob rb e; omega))
        have CNo := Lib.hid (norm_own w.heap.size ws.length _ u0 ws w5 rfl (by omega) HW.out HV.out ho5)
        clear ho5 hg5 hob CR
        go_wp2_with fail
        with_reducible refine CNo.out.mono ?_
        rintro e w6 ⟨a6, r6, c6, rfl, rfl, ho6⟩
        have HO6 := Lib.hid ho6
        clear ho6 CNo
        go_wp2_with fail
        refine bodyPost_ret (results_tmp4 rfl _ _ _) rfl ?_
        exact ⟨_, _, by first | rfl | (rw [HEND.out]; rfl), HU5.out, .inl ⟨HEND.out, rfl, HO6.out.nt, HR5.out⟩⟩
      · have hi1 : (0 : Int) < (i : Int) := by omega
        have hle : 2 ^ (64 - i) ≤ 2 ^ 64 := Nat.pow_le_pow_right (by omega) (by omega)
        have hq64 : 2 ^ (64 - i) < 18446744073709551616 := Nat.lt_of_lt_of_le (Nat.pow_lt_pow_right (by omega) (show 64 - i < 64 by omega)) (by decide)
        have e1 : ((64 - i : Nat) : Int) = 64 - (i : Int) := by omega
        have CP := Lib.hid (pow_any 2 (64 - i) wr (by omega) (by omega) hq64)
        rw [e1, show ((2 : Nat) : Int) = 2 from rfl] at CP
        have hDQ : D * 2 ^ (64 - i) < 18446744073709551616 := by
          have h1 : D * 2 ^ (64 - i) < 2 ^ i * 2 ^ (64 - i) := Nat.mul_lt_mul_of_pos_right HDO.out (Nat.pow_pos (by omega))
          rw [← Nat.pow_add, show i + (64 - i) = 64 by omega] at h1
          exact Nat.lt_of_lt_of_le h1 (by decide)
        have HFIN : Hid (hval 18446744073709551616 (ws ++ [D * 2 ^ (64 - i)]) / 2 ^ ((64 - i) * 1) = hval 2 ds) := Lib.hid (by
          rw [hval_snoc, HV.out, show (2 : Nat) ^ ((64 - i) * 1) = 2 ^ (64 - i) by rw [Nat.mul_comm, Nat.pow_mul], show (18446744073709551616 : Nat) = 2 ^ 64 by decide, pack_shift 2 64 i _ D (by omega) (by omega), HCH.out])
        have HWS := Lib.hid (pk_more HW.out hDQ)
        have hwr : IntKind.u64.wrap ((D : Int) * ((2 ^ (64 - i) : Nat) : Int)) = ((D * 2 ^ (64 - i) : Nat) : Int) := by rw [← Int.natCast_mul, wrapM, Nat.mod_eq_of_lt hDQ]
        clear hle hq64 e1 hDQ
        generalize 2 ^ (64 - i) = Q at *
        generalize hX : D * Q = X at *
        have HX := Lib.hid hX
        clear hX
        go_wp2_with fail
        with_reducible refine CP.out.mono ?_
        rintro e w5 ⟨rfl, rfl⟩
        clear CP
        go_wp2_with (at_builtin; (refine wpList_append_own_at _ ?eg_g (.tmp 232) (.tmp 240) 69 ?eg_ho w.heap.size 102 i0 (.int .u64 0) 1 8 ?eg_ht ?eg_hi ?eg_hz ?eg_hsize ?eg_hby ?eg_hzs ?eg_hsz u0 ws.length (ws.map wv) ?eg_hs ?eg_A ⟨wr.heap.size, 0, none⟩ 1 1 [.int .u64 (X : Int)] ?eg_hx ?eg_hl ?eg_hn ?eg_h1 ?eg_D ?eg_E ?eg_F ?eg_G))
        try case eg_g => rfl
        try case eg_ho => rfl
        try case eg_ht => exact Tryz.underlying69
        try case eg_hi => exact hi0
        try case eg_hz => exact hz0
        try case eg_hsize => exact hz1
        try case eg_hby => exact hz2
        try case eg_hzs => rfl
        try case eg_hsz => exact Nat.one_pos
        try case eg_hs => rfl
        try case eg_A => exact HO.out.alloc _
        try case eg_hx => rfl
        try case eg_hn => exact cell_one_new _ _ _
        try case eg_hl => rfl
        try case eg_h1 => simp [Value.oneCell']
        try case eg_D => first | (simp [maxLen]; done) | (simp [maxLen]; omega)
        try case eg_E => omega
        try case eg_F => have := HU.out.size; first | omega | (simp; done) | (simp; omega)
        intro v' w6 h1 h2 _ h4
        have h1' : w6.ownsRow w.heap.size 102 1 v' (ws ++ [X]).length ((ws ++ [X]).map wv) := by
          rw [List.length_append, List.map_append]; exact h1
        have hob : ∀ q, u0.ownBlock = some q → w.heap.size ≤ q := fun q hq => (HO.out.lt q hq).1
        have HO6 := Lib.hid h1'
        have HR6 : Hid (Rdr w6 rb s s.size) := Lib.hid (by
          obtain ⟨p, hp⟩ := HR.out
          exact Rdr.grown ⟨p, hp.alloc _⟩ h2 (fun e => by have := hob rb e; omega))
        have HU6 : Hid (Up (some rb) w w6) := Lib.hid (up_grown (HU.out.alloc _) h2 hob)
        have CR := Lib.hid (revW_own w.heap.size (ws ++ [X]).length v' (ws ++ [X]) w6 rfl (by simp; omega) HO6.out)
        clear h1 h1' h2 h4 hob HO HR HU
        go_wp2_with fail
        with_reducible refine CR.out.mono ?_
        rintro e w7 ⟨rfl, ho7, hg7⟩
        have hob : ∀ q, v'.ownBlock = some q → w.heap.size ≤ q := fun q hq => (HO6.out.lt q hq).1
        have HU7 := Lib.hid (up_grown HU6.out hg7 hob)
        have HR7 := Lib.hid (HR6.out.grown hg7 (fun e => by have := hob rb e; omega))
        have CNo := Lib.hid (norm_own w.heap.size (ws ++ [X]).length _ v' (ws ++ [X]) w7 rfl (by simp; omega) HWS.out rfl ho7)
        clear ho7 hg7 hob CR HO6 HR6 HU6
        go_wp2_with fail
        with_reducible refine CNo.out.mono ?_
        rintro e w8 ⟨a8, r8, c8, rfl, rfl, ho8⟩
        have HO8 := Lib.hid ho8
        clear ho8 CNo
        have hs1 : (64 - (i : Int)) * 1 = (((64 - i) * 1 : Nat) : Int) := by omega
        have CSH : Hid (Calls Tryz.prog 135 #[.slice a8 r8 c8, .slice a8 r8 c8, .int .u64 (64 - (i : Int))] w7 fun e w' => ∃ v, e = .returned v ∧ Nt w' w'.heap.size v (hval 2 ds) ∧ Below w.heap.size w7 w') := Lib.hid (by
          have := rsh_ownR w.heap.size r8 c8 ((64 - i) * 1) _ a8 w7 (by omega) (by omega) HO8.out
          rw [HFIN.out] at this
          rw [Nat.mul_one, show ((64 - i : Nat) : Int) = 64 - (i : Int) by omega] at this
          exact this)
        clear hs1
        go_wp2_with fail
        with_reducible refine CSH.out.mono ?_
        rintro e w9 ⟨v9, rfl, hn9, hb9⟩
        have HN9 := Lib.hid hn9
        have HU9 := Lib.hid (up_below HU7.out hb9)
        have HR9 := Lib.hid (HR7.out.under hb9 hrb)
        clear hn9 hb9 CSH
        go_wp2_with fail
        refine bodyPost_ret (results_tmp4 rfl _ _ _) rfl ?_
        exact ⟨v9, _, by first | rfl | (rw [HEND.out]; rfl), HU9.out, .inl ⟨HEND.out, rfl, HN9.out, HR9.out⟩⟩
    · have hlt : ds.length < s.size := by omega
      obtain ⟨h3, rfl, rfl, hr⟩ : ∃ h : ds.length < s.size, u15 = .int .u8 (((s[ds.length]'h).toNat : Nat) : Int) ∧ u11 = .nilIface ∧ Rdr wr rb s (ds.length + 1) := by
        rcases hah with h | ⟨h, _⟩
        · exact h
        · omega
      have hx := HBAD.out h3
      clear hah
      have hx2 : (s[ds.length]'h3).toNat = 50 := by rw [hx]; rfl
      clear hx
      rw [hx2]
      clear hx2
      have HR := Lib.hid hr
      have CU := Lib.hid (fun W (h' : Rdr W rb s (ds.length + 1)) => unreadByte_any rb s ds.length W h' (by omega))
      have hEe : Hid (∀ W, Up (some rb) w W → W.cell? ⟨1, 0, none⟩ = some E) := Lib.hid (fun W hU => hU.cell HE.out (by intro e; injection e with e; exact hne e.symm))
      have hNe : Hid (∀ W, Up (some rb) w W → W.cell? ⟨7, 0, none⟩ = some (.iface 178 (.pointer (some nP)))) := Lib.hid (fun W hU => hU.cell HN.out (by intro e; injection e with e; exact hne2 e.symm))
      clear hr
      have hdo := dOf_lt 2 64 ds.length ds (Nat.le_refl _) (fun d hd => by
        obtain ⟨q, hq, rfl⟩ := List.getElem_of_mem hd
        have := (HD.out q (by omega) hq).2
        rwa [List.getD_eq_getElem?_getD, List.getElem?_eq_getElem hq, Option.getD_some] at this)
      have hch := chunk_all 2 64 ds.length ds (Nat.le_refl _) (by omega)
      rw [List.take_length] at hch
      have hil := Nat.mod_lt ds.length (show 0 < 64 by omega)
      have hk0 : ds.length = 0 → ds.length % 64 = 0 := fun h => by rw [h]
      generalize hD : dOf 2 64 ds.length ds = D at *
      generalize hi : ds.length % 64 = i at *
      have HDI := Lib.hid (And.intro hD hi)
      clear hD hi
      have HDO := Lib.hid hdo
      have HCH : Hid (zOf 2 64 ds.length ds * 2 ^ i + D = hval 2 ds) := Lib.hid hch.symm
      have HK0 := Lib.hid hk0
      clear hdo hch hk0
      by_cases hl0 : ds.length = 0
      · have hin0 := HK0.out hl0
        subst hin0
        have hcnt : ((ds.length : Int) == 0) = true := by rw [hl0]; rfl
        have hif : (if ds.length = 0 then (46 : Int) else 48) = 46 := by rw [if_pos hl0]
        rw [hif]
        have HL0 := Lib.hid hl0
        clear hl0 hif
        go_wp2_with fail
        with_reducible refine (CU.out wr HR.out).mono ?_
        rintro e w3 ⟨rfl, hr3, hu3⟩
        have HR3 := Lib.hid hr3
        have HU3 := Lib.hid (HU.out.trans hu3)
        have HZ3 := Lib.hid (HO.out.kept hu3 (.inr (fun e => by have := (HO.out.lt rb e).1; omega)))
        have hcE := hEe.out w3 HU3.out
        have hnl := eql_nil w3 eP
        obtain rfl := HEE.out
        clear hr3 hu3 HR HU HO CU
        have hcN := hNe.out w3 HU3.out
        have HV0 : Hid (hval 18446744073709551616 ws = hval 2 ds) := Lib.hid (by
          have h1 := HDO.out
          have h2 := HCH.out
          rw [Nat.pow_zero] at h1 h2
          rw [HV.out, ← h2]; omega)
        clear HV
        have HV := HV0
        have CR := Lib.hid (revW_own w.heap.size ws.length u0 ws w3 rfl (by omega) HZ3.out)
        go_wp2_with fail
        with_reducible refine CR.out.mono ?_
        rintro e w5 ⟨rfl, ho5, hg5⟩
        have hob : ∀ q, u0.ownBlock = some q → w.heap.size ≤ q := fun q hq => (HZ3.out.lt q hq).1
        have HU5 := Lib.hid (up_grown HU3.out hg5 hob)
        have HR5 := Lib.hid (HR3.out.grown hg5 (fun e => by have := hob rb e; omega))
        have CNo := Lib.hid (norm_own w.heap.size ws.length _ u0 ws w5 rfl (by omega) HW.out HV.out ho5)
        clear ho5 hg5 hob CR
        go_wp2_with fail
        with_reducible refine CNo.out.mono ?_
        rintro e w6 ⟨a6, r6, c6, rfl, rfl, ho6⟩
        have HO6 := Lib.hid ho6
        clear ho6 CNo
        go_wp2_with fail
        refine bodyPost_ret (results_tmp4 rfl _ _ _) rfl ?_
        exact ⟨_, _, rfl, HU5.out, .inr ⟨hlt, .inr rfl, ⟨_, HO6.out.nt⟩, HR5.out⟩⟩
      · have hcnt : ((ds.length : Int) == 0) = false := by rw [beq_eq_false_iff_ne]; omega
        have hif : (if ds.length = 0 then (46 : Int) else 48) = 48 := by rw [if_neg hl0]
        rw [hif]
        clear hif
        by_cases hin0 : i = 0
        · subst hin0
          go_wp2_with fail
          with_reducible refine (CU.out wr HR.out).mono ?_
          rintro e w3 ⟨rfl, hr3, hu3⟩
          have HR3 := Lib.hid hr3
          have HU3 := Lib.hid (HU.out.trans hu3)
          have HZ3 := Lib.hid (HO.out.kept hu3 (.inr (fun e => by have := (HO.out.lt rb e).1; omega)))
          have hcE := hEe.out w3 HU3.out
          have hnl := eql_nil w3 eP
          obtain rfl := HEE.out
          clear hr3 hu3 HR HU HO CU
          have HV0 : Hid (hval 18446744073709551616 ws = hval 2 ds) := Lib.hid (by
            have h1 := HDO.out
            have h2 := HCH.out
            rw [Nat.pow_zero] at h1 h2
            rw [HV.out, ← h2]; omega)
          clear HV
          have HV := HV0
          have CR := Lib.hid (revW_own w.heap.size ws.length u0 ws w3 rfl (by omega) HZ3.out)
          go_wp2_with fail
          with_reducible refine CR.out.mono ?_
          rintro e w5 ⟨rfl, ho5, hg5⟩
          have hob : ∀ q, u0.ownBlock = some q → w.heap.size ≤ q := fun q hq => (HZ3.out.lt q hq).1
          have HU5 := Lib.hid (up_grown HU3.out hg5 hob)
          have HR5 := Lib.hid (HR3.out.grown hg5 (fun e => by have := hob rb e; omega))
          have CNo := Lib.hid (norm_own w.heap.size ws.length _ u0 ws w5 rfl (by omega) HW.out HV.out ho5)
          clear ho5 hg5 hob CR
          go_wp2_with fail
          with_reducible refine CNo.out.mono ?_
          rintro e w6 ⟨a6, r6, c6, rfl, rfl, ho6⟩
          have HO6 := Lib.hid ho6
          clear ho6 CNo
          go_wp2_with fail
          refine bodyPost_ret (results_tmp4 rfl _ _ _) rfl ?_
          exact ⟨_, _, rfl, HU5.out, .inr ⟨hlt, .inl rfl, ⟨_, HO6.out.nt⟩, HR5.out⟩⟩
        · have hi1 : (0 : Int) < (i : Int) := by omega
          go_wp2_with fail
          with_reducible refine (CU.out wr HR.out).mono ?_
          rintro e w3 ⟨rfl, hr3, hu3⟩
          have HR3 := Lib.hid hr3
          have HU3 := Lib.hid (HU.out.trans hu3)
          have HZ3 := Lib.hid (HO.out.kept hu3 (.inr (fun e => by have := (HO.out.lt rb e).1; omega)))
          have hcE := hEe.out w3 HU3.out
          have hnl := eql_nil w3 eP
          obtain rfl := HEE.out
          clear hr3 hu3 HR HU HO CU
          have hle : 2 ^ (64 - i) ≤ 2 ^ 64 := Nat.pow_le_pow_right (by omega) (by omega)
          have hq64 : 2 ^ (64 - i) < 18446744073709551616 := Nat.lt_of_lt_of_le (Nat.pow_lt_pow_right (by omega) (show 64 - i < 64 by omega)) (by decide)
          have e1 : ((64 - i : Nat) : Int) = 64 - (i : Int) := by omega
          have CP := Lib.hid (pow_any 2 (64 - i) w3 (by omega) (by omega) hq64)
          rw [e1, show ((2 : Nat) : Int) = 2 from rfl] at CP
          have hDQ : D * 2 ^ (64 - i) < 18446744073709551616 := by
            have h1 : D * 2 ^ (64 - i) < 2 ^ i * 2 ^ (64 - i) := Nat.mul_lt_mul_of_pos_right HDO.out (Nat.pow_pos (by omega))
            rw [← Nat.pow_add, show i + (64 - i) = 64 by omega] at h1
            exact Nat.lt_of_lt_of_le h1 (by decide)
          have HFIN : Hid (hval 18446744073709551616 (ws ++ [D * 2 ^ (64 - i)]) / 2 ^ ((64 - i) * 1) = hval 2 ds) := Lib.hid (by
            rw [hval_snoc, HV.out, show (2 : Nat) ^ ((64 - i) * 1) = 2 ^ (64 - i) by rw [Nat.mul_comm, Nat.pow_mul], show (18446744073709551616 : Nat) = 2 ^ 64 by decide, pack_shift 2 64 i _ D (by omega) (by omega), HCH.out])
          have HWS := Lib.hid (pk_more HW.out hDQ)
          have hwr : IntKind.u64.wrap ((D : Int) * ((2 ^ (64 - i) : Nat) : Int)) = ((D * 2 ^ (64 - i) : Nat) : Int) := by rw [← Int.natCast_mul, wrapM, Nat.mod_eq_of_lt hDQ]
          clear hle hq64 e1 hDQ
          generalize 2 ^ (64 - i) = Q at *
          generalize hX : D * Q = X at *
          have HX := Lib.hid hX
          clear hX
          go_wp2_with fail
          with_reducible refine CP.out.mono ?_
          rintro e w5 ⟨rfl, rfl⟩
          clear CP
          go_wp2_with (at_builtin; (refine wpList_append_own_at _ ?eb_g (.tmp 232) (.tmp 240) 69 ?eb_ho w.heap.size 102 i0 (.int .u64 0) 1 8 ?eb_ht ?eb_hi ?eb_hz ?eb_hsize ?eb_hby ?eb_hzs ?eb_hsz u0 ws.length (ws.map wv) ?eb_hs ?eb_A ⟨w3.heap.size, 0, none⟩ 1 1 [.int .u64 (X : Int)] ?eb_hx ?eb_hl ?eb_hn ?eb_h1 ?eb_D ?eb_E ?eb_F ?eb_G))
          try case eb_g => rfl
          try case eb_ho => rfl
          try case eb_ht => exact Tryz.underlying69
          try case eb_hi => exact hi0
          try case eb_hz => exact hz0
          try case eb_hsize => exact hz1
          try case eb_hby => exact hz2
          try case eb_hzs => rfl
          try case eb_hsz => exact Nat.one_pos
          try case eb_hs => rfl
          try case eb_A => exact HZ3.out.alloc _
          try case eb_hx => rfl
          try case eb_hn => exact cell_one_new _ _ _
          try case eb_hl => rfl
          try case eb_h1 => simp [Value.oneCell']
          try case eb_D => first | (simp [maxLen]; done) | (simp [maxLen]; omega)
          try case eb_E => omega
          try case eb_F => have := HU3.out.size; first | omega | (simp; done) | (simp; omega)
          intro v' w6 h1 h2 _ h4
          have h1' : w6.ownsRow w.heap.size 102 1 v' (ws ++ [X]).length ((ws ++ [X]).map wv) := by
            rw [List.length_append, List.map_append]; exact h1
          have hob : ∀ q, u0.ownBlock = some q → w.heap.size ≤ q := fun q hq => (HZ3.out.lt q hq).1
          have HO6 := Lib.hid h1'
          have HR6 : Hid (Rdr w6 rb s ds.length) := Lib.hid (by
            obtain ⟨p, hp⟩ := HR3.out
            exact Rdr.grown ⟨p, hp.alloc _⟩ h2 (fun e => by have := hob rb e; omega))
          have HU6 : Hid (Up (some rb) w w6) := Lib.hid (up_grown (HU3.out.alloc _) h2 hob)
          have CR := Lib.hid (revW_own w.heap.size (ws ++ [X]).length v' (ws ++ [X]) w6 rfl (by simp; omega) HO6.out)
          clear h1 h1' h2 h4 hob HZ3 HR3 HU3
          go_wp2_with fail
          with_reducible refine CR.out.mono ?_
          rintro e w7 ⟨rfl, ho7, hg7⟩
          have hob : ∀ q, v'.ownBlock = some q → w.heap.size ≤ q := fun q hq => (HO6.out.lt q hq).1
          have HU7 := Lib.hid (up_grown HU6.out hg7 hob)
          have HR7 := Lib.hid (HR6.out.grown hg7 (fun e => by have := hob rb e; omega))
          have CNo := Lib.hid (norm_own w.heap.size (ws ++ [X]).length _ v' (ws ++ [X]) w7 rfl (by simp; omega) HWS.out rfl ho7)
          clear ho7 hg7 hob CR HO6 HR6 HU6
          go_wp2_with fail
          with_reducible refine CNo.out.mono ?_
          rintro e w8 ⟨a8, r8, c8, rfl, rfl, ho8⟩
          have HO8 := Lib.hid ho8
          clear ho8 CNo
          have hs1 : (64 - (i : Int)) * 1 = (((64 - i) * 1 : Nat) : Int) := by omega
          have CSH : Hid (Calls Tryz.prog 135 #[.slice a8 r8 c8, .slice a8 r8 c8, .int .u64 (64 - (i : Int))] w7 fun e w' => ∃ v, e = .returned v ∧ Nt w' w'.heap.size v (hval 2 ds) ∧ Below w.heap.size w7 w') := Lib.hid (by
            have := rsh_ownR w.heap.size r8 c8 ((64 - i) * 1) _ a8 w7 (by omega) (by omega) HO8.out
            rw [HFIN.out] at this
            rw [Nat.mul_one, show ((64 - i : Nat) : Int) = 64 - (i : Int) by omega] at this
            exact this)
          clear hs1
          go_wp2_with fail
          with_reducible refine CSH.out.mono ?_
          rintro e w9 ⟨v9, rfl, hn9, hb9⟩
          have HN9 := Lib.hid hn9
          have HU9 := Lib.hid (up_below HU7.out hb9)
          have HR9 := Lib.hid (HR7.out.under hb9 hrb)
          clear hn9 hb9 CSH
          go_wp2_with fail
          refine bodyPost_ret (results_tmp4 rfl _ _ _) rfl ?_
          exact ⟨v9, _, rfl, HU9.out, .inr ⟨hlt, .inl rfl, ⟨_, HN9.out⟩, HR9.out⟩⟩
end Go.Proofs.YtbfgjaammmpcdaaGreatDoor
