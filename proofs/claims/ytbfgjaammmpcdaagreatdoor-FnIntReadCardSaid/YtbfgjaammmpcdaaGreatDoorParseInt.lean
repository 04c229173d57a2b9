/- starlark.parseInt. -/
import Derived.Test.YtbfgjaammmpcdaaGreatDoorBigScan
import Derived.Test.YtbfgjaammmpcdaaGreatDoorStarSub
import Derived.Test.YtbfgjaammmpcdaaGreatDoorZero
import Derived.Deep.CutRange
namespace Go.Proofs.YtbfgjaammmpcdaaGreatDoor
open Go.RowKit Dig
set_option linter.unusedVariables false
set_option linter.unusedSimpArgs false
set_option maxRecDepth 100000

theorem not_empty {T : ByteArray} (h : 0 < T.size) : T.toList.isEmpty = false := by
  rw [ByteArray.toList_eq]
  cases hd : T.data.toList with
  | nil => rw [ByteArray.size, ← Array.length_toList, hd] at h; simp at h
  | cons => rfl
theorem index1 (R : ByteArray) (h5 : 1 < R.size) (z : Nat) (hz : (R[1]'h5).toNat = z) (w : World) : (Instr.index 9 (.string R) (.int .i64 1)).run Tryz.prog w = .ok (.int .u8 (z : Int)) w := by
  rw [run_index_string w 9 R .i64 1 Tryz.underlying9, dif_pos (by omega)]
  subst hz
  rfl
theorem index0 (R : ByteArray) (h5 : 0 < R.size) (z : Nat) (hz : (R[0]'h5).toNat = z) (w : World) : (Instr.index 9 (.string R) (.int .i64 0)).run Tryz.prog w = .ok (.int .u8 (z : Int)) w := by
  rw [run_index_string w 9 R .i64 0 Tryz.underlying9, dif_pos (by omega)]
  subst hz
  rfl
/-- a sign, or none -/
structure SgnTxt (T : ByteArray) (neg : Bool) (R : ByteArray) (x : Nat) : Prop where
  pos : 0 < T.size
  max : T.size ≤ 1000000
  fst : (T[0]'pos).toNat = x
  cas : (x = 45 ∧ neg = true ∧ T.extract 1 T.size = R) ∨ (x = 43 ∧ neg = false ∧ T.extract 1 T.size = R) ∨ (x ≠ 43 ∧ x ≠ 45 ∧ neg = false ∧ R = T)
/-- a prefix, or none -/
structure PfxTxt (R : ByteArray) (a b : Nat) (body : ByteArray) (y : Nat) : Prop where
  pos : 0 < R.size
  max : R.size ≤ 1000000
  fst : (R[0]'pos).toNat = y
  cas : ((R.size = 1 ∨ y ≠ 48) ∧ R = body ∧ (a = b ∨ (a = 0 ∧ b = 10))) ∨ (2 < R.size ∧ y = 48 ∧ R.extract 2 R.size = body ∧ (a = b ∨ a = 0) ∧ ∃ h : 1 < R.size, ((b = 2 ∧ (R[1]'h).toNat = 98) ∨ (b = 8 ∧ (R[1]'h).toNat = 111) ∨ (b = 16 ∧ (R[1]'h).toNat = 120)))

def signI (neg : Bool) (m : Nat) : Int := if neg then 0 - (m : Int) else (m : Int)
def PiPost (neg : Bool) (b : Nat) (ds : List Nat) (n : Nat) (w : World) (e : Ending) (w' : World) : Prop :=
  Below w.heap.size w w' ∧ ((ds.length = n ∧ ∃ s q, e = .returned (.iface 54 (.agg #[.int .i64 s, .pointer q])) ∧ In w' w'.heap.size (.agg #[.int .i64 s, .pointer q]) (signI neg (hval b ds))) ∨ (ds.length < n ∧ e = .returned .nilIface))

set_option maxHeartbeats 6400000 in
theorem parseInt_any (T R body : ByteArray) (a b x y : Nat) (neg : Bool) (ds : List Nat) (eP nP : Addr) (w : World) (hs : SgnTxt T neg R x) (hp : PfxTxt R a b body y) (ha : a ≤ 36) (ht : NumTxt b body ds) (hg : NumG eP nP w.heap.size w) :
    Calls Tryz.prog 31 #[.string T, .int .i64 (a : Int)] w (PiPost neg b ds body.size w) := by
  have HT := Lib.hid ht
  have HG := Lib.hid hg
  clear ht hg
  obtain ⟨hT, hTm, hx, hsc⟩ := hs
  have HS := Lib.hid hsc
  have HP := Lib.hid hp
  have hem := not_empty hT
  clear hsc hp
  go_enter Tryz.func31, Tryz.ntmps31
  go_upto_if 12 with fail
  go_cut [0, 5] from 13 to 22 (fun s0 s5 wx => s0 = .string R ∧ s5 = .bool neg ∧ wx = w)
  case first =>
    rcases HS.out with ⟨h1, rfl, h3⟩ | ⟨h1, rfl, h3⟩ | ⟨h1, h2, rfl, h3⟩
    · go_wp2_with fail
      go_meet
      exact ⟨rfl, rfl, rfl⟩
    · go_wp2_with fail
      go_meet
      exact ⟨rfl, rfl, rfl⟩
    · have e1 : ((x : Int) == 43) = false := by rw [beq_eq_false_iff_ne]; omega
      have e2 : ((x : Int) == 45) = false := by rw [beq_eq_false_iff_ne]; omega
      clear h1 h2
      subst h3
      go_wp2_with fail
      go_meet
      exact ⟨rfl, rfl, rfl⟩
  case rest =>
  obtain ⟨rfl, rfl, rfl⟩ := hcut
  clear hx hem hT hTm HS
  obtain ⟨hR, hRm, hy, hpc⟩ := HP.out
  have HC := Lib.hid hpc
  clear HP hpc
  go_upto_region 9 with fail
  obtain ⟨P, hP⟩ : ∃ P : Bool, P = decide (1 < R.size ∧ y = 48) := ⟨_, rfl⟩
  have HPP := Lib.hid hP
  clear hP
  go_cut [30] from 23 to 30 (fun v wx => v = .bool P ∧ wx = wc)
  case first =>
    by_cases h1 : 1 < R.size
    · have hI : (1 : Int) < (R.size : Int) := by omega
      by_cases h2 : y = 48
      · obtain rfl : P = true := by rw [HPP.out]; exact decide_eq_true ⟨h1, h2⟩
        subst h2
        go_wp2_with fail
        go_meet
        exact ⟨rfl, rfl⟩
      · obtain rfl : P = false := by rw [HPP.out]; exact decide_eq_false (fun h => h2 h.2)
        have e1 : ((y : Int) == 48) = false := by rw [beq_eq_false_iff_ne]; omega
        clear h2
        go_wp2_with fail
        go_meet
        exact ⟨rfl, rfl⟩
    · obtain rfl : P = false := by rw [HPP.out]; exact decide_eq_false (fun h => h1 h.1)
      have hI : ¬ (1 : Int) < (R.size : Int) := by omega
      go_wp2_with fail
      go_meet
      exact ⟨rfl, rfl⟩
  case rest =>
  obtain ⟨rfl, rfl⟩ := hcut
  go_upto_if 30 with fail
  go_cut [0, 1] from 31 to 70 (fun s0 s1 wx => s0 = .string body ∧ (s1 = .int .i64 (b : Int) ∨ (s1 = .int .i64 0 ∧ b = 10)) ∧ wx = wc)
  case first =>
    rcases HC.out with ⟨h1, rfl, h3⟩ | ⟨h1, h2, h3, h4, h5, h6⟩
    · obtain rfl : P = false := by rw [HPP.out]; exact decide_eq_false (fun h => by omega)
      go_wp2_with fail
      go_meet
      refine ⟨rfl, ?_, rfl⟩
      rcases h3 with rfl | ⟨rfl, rfl⟩
      · exact .inl rfl
      · exact .inr ⟨rfl, rfl⟩
    · obtain rfl : P = true := by rw [HPP.out]; exact decide_eq_true ⟨by omega, h2⟩
      have hI : (2 : Int) < (R.size : Int) := by omega
      have hI1 : (1 : Int) < (R.size : Int) := by omega
      obtain ⟨z, hz⟩ : ∃ z, z = (R[1]'h5).toNat := ⟨_, rfl⟩
      rw [← hz] at h6
      have hz := hz.symm
      have hix := index1 R h5 z hz
      clear hz
      rcases h6 with ⟨rfl, h6⟩ | ⟨rfl, h6⟩ | ⟨rfl, h6⟩
      · rcases h4 with rfl | rfl
        · go_wp2_with fail
          go_meet
          exact ⟨rfl, .inl rfl, rfl⟩
        · go_wp2_with fail
          go_meet
          exact ⟨rfl, .inl rfl, rfl⟩
      · rcases h4 with rfl | rfl
        · go_wp2_with fail
          go_meet
          exact ⟨rfl, .inl rfl, rfl⟩
        · go_wp2_with fail
          go_meet
          exact ⟨rfl, .inl rfl, rfl⟩
      · rcases h4 with rfl | rfl
        · go_wp2_with fail
          go_meet
          exact ⟨rfl, .inl rfl, rfl⟩
        · go_wp2_with fail
          go_meet
          exact ⟨rfl, .inl rfl, rfl⟩
  case rest =>
  obtain ⟨rfl, hs1, rfl⟩ := hcut
  rcases hs1 with rfl | ⟨rfl, rfl⟩
  · have hb0 : ((b : Int) == 0) = false := by rw [beq_eq_false_iff_ne]; have := HT.out.b2; omega
    have CSS := Lib.hid (setString_any wc.heap.size wc.heap.size b body ds eP nP (wc.alloc (.cells #[.bool false, .slice none 0 0] 71)) (Blk.new wc 71 [.bool false, .slice none 0 0]) (Nat.le_refl _) HT.out (HG.out.below ((Below.refl _ _).alloc (Nat.le_refl _) _)))
    have hbp := HT.out.pos
    have hbm := HT.out.size
    have hq2 := HT.out.first _ rfl
    have e1 : ((((body[0]'hbp).toNat : Nat) : Int) == 45) = false := by rw [beq_eq_false_iff_ne]; omega
    have e2 : ((((body[0]'hbp).toNat : Nat) : Int) == 43) = false := by rw [beq_eq_false_iff_ne]; omega
    have e3 : ¬ (((body[0]'hbp).toNat : Nat) : Int) = 45 := by omega
    have hemb := not_empty hbp
    have hlm := HT.out.lim
    have HLM := Lib.hid hlm
    have HAL : Hid (Below wc.heap.size wc (wc.alloc (.cells #[.bool false, .slice none 0 0] 71))) := Lib.hid ((Below.refl _ _).alloc (Nat.le_refl _) _)
    clear hq2 hlm
    go_wp2_with fail
    with_reducible refine CSS.out.mono ?_
    rintro e w1 ⟨hb1, hc⟩
    have HB1 := Lib.hid (HAL.out.trans hb1)
    clear hb1 CSS HAL
    rcases hc with ⟨hl, rfl, hbg⟩ | ⟨hl, rfl⟩
    · have CM := Lib.hid (makeBigInt_any (some ⟨wc.heap.size, 0, none⟩) ((hval b ds : Nat) : Int) w1 hbg (by simpa using HLM.out))
      clear hbg
      go_wp2_with fail
      with_reducible refine CM.out.mono ?_
      rintro e w2 ⟨v, rfl, hin, hb2⟩
      obtain ⟨s, q2, rfl⟩ := hin.form
      have HB2 := Lib.hid (HB1.out.trans (hb2.mono HB1.out.size))
      have HK : Hid (Blk (w2.alloc (.cells #[.int .i64 s, .pointer q2] 54)) w2.heap.size 54 [.int .i64 s, .pointer q2]) := Lib.hid (Blk.new w2 54 [.int .i64 s, .pointer q2])
      have HIN : Hid (In (w2.alloc (.cells #[.int .i64 s, .pointer q2] 54)) (w2.alloc (.cells #[.int .i64 s, .pointer q2] 54)).heap.size (.agg #[.int .i64 s, .pointer q2]) ((hval b ds : Nat) : Int)) := Lib.hid ((hin.below ((Below.refl _ _).alloc (Nat.le_refl _) _)).more (by simp))
      have HB3 : Hid (Below wc.heap.size wc (w2.alloc (.cells #[.int .i64 s, .pointer q2] 54))) := Lib.hid (HB2.out.alloc HB2.out.size _)
      have HSZ : Hid ((w2.alloc (.cells #[.int .i64 s, .pointer q2] 54)).heap.size = w2.heap.size + 1) := Lib.hid (by simp)
      have hwz : wc.heap.size ≤ w2.heap.size := HB2.out.size
      clear hin hb2 CM
      cases neg
      · go_wp2_with fail
        go_ret
        exact ⟨HB3.out, .inl ⟨hl, _, _, rfl, HIN.out⟩⟩
      · have KEEP : Hid (∀ W, Below (w2.heap.size + 1) (w2.alloc (.cells #[.int .i64 s, .pointer q2] 54)) W → Blk W w2.heap.size 54 [.int .i64 s, .pointer q2]) := Lib.hid (fun W h => HK.out.below h (by omega))
        have CZ := Lib.hid starZero_any
        have STEP : Hid (∀ W W', Below (w2.heap.size + 1) (w2.alloc (.cells #[.int .i64 s, .pointer q2] 54)) W → Below W.heap.size W W' → Below (w2.heap.size + 1) (w2.alloc (.cells #[.int .i64 s, .pointer q2] 54)) W') := Lib.hid (fun W W' h h' => h.trans (h'.mono (by have := h.size; rw [HSZ.out] at this; exact this)))
        have CS : Hid (∀ W, Below (w2.heap.size + 1) (w2.alloc (.cells #[.int .i64 s, .pointer q2] 54)) W → Calls Tryz.prog 51 #[.agg #[.int .i64 0, .pointer none], .agg #[.int .i64 s, .pointer q2]] W (InPost (0 - ((hval b ds : Nat) : Int)) W)) := Lib.hid (fun W h => intSub_any 0 _ _ _ W ⟨0, none, rfl, .inl ⟨rfl, rfl, by omega, by omega⟩⟩ ((HIN.out.below (h.mono (by rw [HSZ.out]; omega))).more h.size) (by unfold lim; exact Nat.pow_pos (by omega)) (by simpa using HLM.out) (by simpa using HLM.out))
        have FIN : Hid (∀ W s' q', Below (w2.heap.size + 1) (w2.alloc (.cells #[.int .i64 s, .pointer q2] 54)) W → In W W.heap.size (.agg #[.int .i64 s', .pointer q']) (0 - ((hval b ds : Nat) : Int)) → PiPost true b ds body.size wc (.returned (.iface 54 (.agg #[.int .i64 s', .pointer q']))) ((W.setCell ⟨w2.heap.size, 0, none⟩ (.int .i64 s')).setCell ⟨w2.heap.size, 1, none⟩ (.pointer q'))) := Lib.hid (fun W s' q' h hi => by
          have h2 := hi.store (w := wc) (KEEP.out W h) (by simp [wv]) (HB3.out.trans (h.mono (by omega))) hwz
          exact ⟨h2.2, .inl ⟨hl, _, _, rfl, h2.1⟩⟩)
        have HB : Hid (Below (w2.heap.size + 1) (w2.alloc (.cells #[.int .i64 s, .pointer q2] 54)) (w2.alloc (.cells #[.int .i64 s, .pointer q2] 54)).drew) := Lib.hid (Below.refl _ _).drew
        have hk := KEEP.out _ HB.out
        have d0 := hk.cell 0 (by simp)
        have d1 := hk.cell 1 (by simp)
        have g0 := hk.free 0
        have g1 := hk.free 1
        have dl := hk.lt
        clear hk HIN HK HLM HT HG HSZ
        go_wp2_with fail
        go_region_with (first
          | (go_at_call 49; (with_reducible refine (CZ.out _).mono ?_); rintro e w4 ⟨rfl, hb4⟩; have HB := Lib.hid (STEP.out _ _ HB.out hb4); clear hb4; have hk := KEEP.out _ HB.out; have d0 := hk.cell 0 (by simp); have d1 := hk.cell 1 (by simp); have g0 := hk.free 0; have g1 := hk.free 1; have dl := hk.lt; clear hk)
          | (go_at_call 51; (with_reducible refine (CS.out _ HB.out).mono ?_); rintro e w5 ⟨v5, rfl, hi5, hb5⟩; obtain ⟨s5, q5, rfl⟩ := hi5.form; have HB := Lib.hid (STEP.out _ _ HB.out hb5); have HI5 := Lib.hid hi5; clear hb5 hi5; have hk := KEEP.out _ HB.out; have d0 := hk.cell 0 (by simp); have d1 := hk.cell 1 (by simp); have g0 := hk.free 0; have g1 := hk.free 1; have dl := hk.lt; clear hk))
        all_goals
          go_wp2_with fail
          go_ret
          exact FIN.out _ _ _ HB.out HI5.out
    · go_wp2_with fail
      go_ret
      exact ⟨HB1.out, .inr ⟨hl, rfl⟩⟩
  · have CSS := Lib.hid (setString_any wc.heap.size wc.heap.size 10 body ds eP nP (wc.alloc (.cells #[.bool false, .slice none 0 0] 71)) (Blk.new wc 71 [.bool false, .slice none 0 0]) (Nat.le_refl _) HT.out (HG.out.below ((Below.refl _ _).alloc (Nat.le_refl _) _)))
    rw [show ((10 : Nat) : Int) = 10 from rfl] at CSS
    have hbp := HT.out.pos
    have hbm := HT.out.size
    have hq2 := HT.out.first _ rfl
    have e1 : ((((body[0]'hbp).toNat : Nat) : Int) == 45) = false := by rw [beq_eq_false_iff_ne]; omega
    have e2 : ((((body[0]'hbp).toNat : Nat) : Int) == 43) = false := by rw [beq_eq_false_iff_ne]; omega
    have e3 : ¬ (((body[0]'hbp).toNat : Nat) : Int) = 45 := by omega
    have hemb := not_empty hbp
    have hlm := HT.out.lim
    have HLM := Lib.hid hlm
    have HAL : Hid (Below wc.heap.size wc (wc.alloc (.cells #[.bool false, .slice none 0 0] 71))) := Lib.hid ((Below.refl _ _).alloc (Nat.le_refl _) _)
    clear hq2 hlm
    go_wp2_with fail
    with_reducible refine CSS.out.mono ?_
    rintro e w1 ⟨hb1, hc⟩
    have HB1 := Lib.hid (HAL.out.trans hb1)
    clear hb1 CSS HAL
    rcases hc with ⟨hl, rfl, hbg⟩ | ⟨hl, rfl⟩
    · have CM := Lib.hid (makeBigInt_any (some ⟨wc.heap.size, 0, none⟩) ((hval 10 ds : Nat) : Int) w1 hbg (by simpa using HLM.out))
      clear hbg
      go_wp2_with fail
      with_reducible refine CM.out.mono ?_
      rintro e w2 ⟨v, rfl, hin, hb2⟩
      obtain ⟨s, q2, rfl⟩ := hin.form
      have HB2 := Lib.hid (HB1.out.trans (hb2.mono HB1.out.size))
      have HK : Hid (Blk (w2.alloc (.cells #[.int .i64 s, .pointer q2] 54)) w2.heap.size 54 [.int .i64 s, .pointer q2]) := Lib.hid (Blk.new w2 54 [.int .i64 s, .pointer q2])
      have HIN : Hid (In (w2.alloc (.cells #[.int .i64 s, .pointer q2] 54)) (w2.alloc (.cells #[.int .i64 s, .pointer q2] 54)).heap.size (.agg #[.int .i64 s, .pointer q2]) ((hval 10 ds : Nat) : Int)) := Lib.hid ((hin.below ((Below.refl _ _).alloc (Nat.le_refl _) _)).more (by simp))
      have HB3 : Hid (Below wc.heap.size wc (w2.alloc (.cells #[.int .i64 s, .pointer q2] 54))) := Lib.hid (HB2.out.alloc HB2.out.size _)
      have HSZ : Hid ((w2.alloc (.cells #[.int .i64 s, .pointer q2] 54)).heap.size = w2.heap.size + 1) := Lib.hid (by simp)
      have hwz : wc.heap.size ≤ w2.heap.size := HB2.out.size
      clear hin hb2 CM
      cases neg
      · go_wp2_with fail
        go_ret
        exact ⟨HB3.out, .inl ⟨hl, _, _, rfl, HIN.out⟩⟩
      · have KEEP : Hid (∀ W, Below (w2.heap.size + 1) (w2.alloc (.cells #[.int .i64 s, .pointer q2] 54)) W → Blk W w2.heap.size 54 [.int .i64 s, .pointer q2]) := Lib.hid (fun W h => HK.out.below h (by omega))
        have CZ := Lib.hid starZero_any
        have STEP : Hid (∀ W W', Below (w2.heap.size + 1) (w2.alloc (.cells #[.int .i64 s, .pointer q2] 54)) W → Below W.heap.size W W' → Below (w2.heap.size + 1) (w2.alloc (.cells #[.int .i64 s, .pointer q2] 54)) W') := Lib.hid (fun W W' h h' => h.trans (h'.mono (by have := h.size; rw [HSZ.out] at this; exact this)))
        have CS : Hid (∀ W, Below (w2.heap.size + 1) (w2.alloc (.cells #[.int .i64 s, .pointer q2] 54)) W → Calls Tryz.prog 51 #[.agg #[.int .i64 0, .pointer none], .agg #[.int .i64 s, .pointer q2]] W (InPost (0 - ((hval 10 ds : Nat) : Int)) W)) := Lib.hid (fun W h => intSub_any 0 _ _ _ W ⟨0, none, rfl, .inl ⟨rfl, rfl, by omega, by omega⟩⟩ ((HIN.out.below (h.mono (by rw [HSZ.out]; omega))).more h.size) (by unfold lim; exact Nat.pow_pos (by omega)) (by simpa using HLM.out) (by simpa using HLM.out))
        have FIN : Hid (∀ W s' q', Below (w2.heap.size + 1) (w2.alloc (.cells #[.int .i64 s, .pointer q2] 54)) W → In W W.heap.size (.agg #[.int .i64 s', .pointer q']) (0 - ((hval 10 ds : Nat) : Int)) → PiPost true 10 ds body.size wc (.returned (.iface 54 (.agg #[.int .i64 s', .pointer q']))) ((W.setCell ⟨w2.heap.size, 0, none⟩ (.int .i64 s')).setCell ⟨w2.heap.size, 1, none⟩ (.pointer q'))) := Lib.hid (fun W s' q' h hi => by
          have h2 := hi.store (w := wc) (KEEP.out W h) (by simp [wv]) (HB3.out.trans (h.mono (by omega))) hwz
          exact ⟨h2.2, .inl ⟨hl, _, _, rfl, h2.1⟩⟩)
        have HB : Hid (Below (w2.heap.size + 1) (w2.alloc (.cells #[.int .i64 s, .pointer q2] 54)) (w2.alloc (.cells #[.int .i64 s, .pointer q2] 54)).drew) := Lib.hid (Below.refl _ _).drew
        have hk := KEEP.out _ HB.out
        have d0 := hk.cell 0 (by simp)
        have d1 := hk.cell 1 (by simp)
        have g0 := hk.free 0
        have g1 := hk.free 1
        have dl := hk.lt
        clear hk HIN HK HLM HT HG HSZ
        go_wp2_with fail
        go_region_with (first
          | (go_at_call 49; (with_reducible refine (CZ.out _).mono ?_); rintro e w4 ⟨rfl, hb4⟩; have HB := Lib.hid (STEP.out _ _ HB.out hb4); clear hb4; have hk := KEEP.out _ HB.out; have d0 := hk.cell 0 (by simp); have d1 := hk.cell 1 (by simp); have g0 := hk.free 0; have g1 := hk.free 1; have dl := hk.lt; clear hk)
          | (go_at_call 51; (with_reducible refine (CS.out _ HB.out).mono ?_); rintro e w5 ⟨v5, rfl, hi5, hb5⟩; obtain ⟨s5, q5, rfl⟩ := hi5.form; have HB := Lib.hid (STEP.out _ _ HB.out hb5); have HI5 := Lib.hid hi5; clear hb5 hi5; have hk := KEEP.out _ HB.out; have d0 := hk.cell 0 (by simp); have d1 := hk.cell 1 (by simp); have g0 := hk.free 0; have g1 := hk.free 1; have dl := hk.lt; clear hk))
        all_goals
          go_wp2_with fail
          go_ret
          exact FIN.out _ _ _ HB.out HI5.out
    · go_wp2_with fail
      go_ret
      exact ⟨HB1.out, .inr ⟨hl, rfl⟩⟩
end Go.Proofs.YtbfgjaammmpcdaaGreatDoor
