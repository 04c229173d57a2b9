/- spec.cut, Of, order at numbers of any size that memory holds (printed by genx.py). -/
import Derived.Test.YtggpaejlmfppoaaGreatCmp3
import Derived.Test.YtggpaejlmfppoaaGreatLow
namespace Go.Proofs.YtggpaejlmfppoaaGreat
open Go.RowKit Dig
set_option linter.unusedVariables false
set_option linter.unusedSimpArgs false
set_option maxRecDepth 100000

/-- a magnitude of no more bytes than memory holds -/
def FitX (m : Nat) : Prop := ∀ ms, Bytes ms m → ms.length ≤ 140737488355328
theorem fitX_lim {m : Nat} (h : m < lim) : FitX m := fun ms hb => by have := hb.length_le h; omega
theorem fitX_bytes {ms : List Nat} {m : Nat} (h : Bytes ms m) (hl : ms.length ≤ 140737488355328) : FitX m := fun xs hb => by rw [hb.unique h]; exact hl
theorem fitX_small (n : Int) (h1 : -9223372036854775808 ≤ n) (h2 : n ≤ 9223372036854775807) : FitX n.natAbs := fitX_lim (lt_lim (j := 8) (by
  have e : (256 : Nat) ^ 8 = 18446744073709551616 := by decide
  omega) (by omega))
theorem Dig.Bytes.length_leX {ms : List Nat} {m : Nat} (h : Bytes ms m) (hm : FitX m) : ms.length ≤ 140737488355328 := hm _ h
set_option maxHeartbeats 400000 in
theorem cut_anyX (ms : List Nat) (v : Value) (w : World) (hms : ∀ x ∈ ms, x < 256) (hlen : ms.length ≤ 140737488355328) (h : Sl w w.heap.size v (ms.map bv)) :
    Calls Tryz.prog 55 #[v] w (CutPost (bval ms) ms.length w) := by
  obtain ⟨i0, hi0, hz0, hz1, hz2⟩ := info_parts info8
  obtain ⟨a, c, rfl, hc, hr⟩ := h
  simp only [List.length_map] at hc hr
  have hr' : ms ≠ [] → ∃ b o, a = some ⟨b, o, none⟩ ∧ b < w.heap.size ∧ Rd w b o (ms.map bv) := fun hne => hr (by simpa using hne)
  have HS : Hid (Sl w w.heap.size (.slice a ms.length c) (ms.map bv)) := ⟨a, c, by simp, by simpa using hc, hr⟩
  clear hr
  simp only [List.length_map]
  go_enter Tryz.func55, Tryz.ntmps55
  go_wp2
  go_loop [3] (fun i => ∃ k : Nat, k ≤ ms.length ∧ i = .int .i64 k ∧ Hid (∀ j, j < k → ms.getD j 0 = 0)) (fun i => ms.length - (intOf i).toNat)
  case atStart => exact ⟨0, Nat.zero_le _, rfl, Lib.hid (fun j hj => absurd hj (by omega))⟩
  case round =>
    obtain ⟨k, hk, rfl, hz⟩ := hrel
    by_cases hlt : k < ms.length
    · obtain ⟨b, o, rfl, hb, hrd⟩ := hr' (by intro h0; subst h0; simp at hlt)
      have hcell := hrd k (by simpa using hlt)
      rw [getD_map_bv ms k hlt] at hcell
      have hx : ms.getD k 0 < 256 := hms _ (by rw [List.getD_eq_getElem?_getD, List.getElem?_eq_getElem hlt]; simp)
      have HR := Lib.hid hrd; clear hrd
      clear hr'
      by_cases h0 : ms.getD k 0 = 0
      · have H0 := Lib.hid h0
        rw [h0] at hcell
        clear h0 hx
        go_wp2
        go_round
        case rel => exact ⟨k + 1, by omega, by go_num, Lib.hid (fun j hj => by
          by_cases e : j = k
          · subst e; exact H0.out
          · exact hz.out j (by omega))⟩
        case measure => simp [intOf]; omega
      · have h1 : (((ms.getD k 0 : Nat) : Int) == 0) = false := by simpa using h0
        have H0 := Lib.hid h0; clear h0
        generalize hg : ms.getD k 0 = x at *
        have HG := Lib.hid hg; clear hg
        have hck : ¬ c = k := by omega
        have hcut := HS.out.cut k (by simpa using hk)
        have hcb := cut_bytes ms hms k hk hz.out (.inr (by rw [HG.out]; exact H0.out))
        rw [if_neg hck] at hcut
        have hsl : Sl (w.alloc (.cells #[] 5)) w.heap.size (.slice (some ⟨b, o + k, none⟩) (ms.length - k) (c - k)) ((ms.drop k).map bv) := by
          simpa [add_zero_off] using (hcut.below ((Below.refl _ w).alloc (Nat.le_refl _) (.cells #[] 5)))
        have HC := Lib.hid hsl; clear hcut hsl
        have HB := Lib.hid hcb; clear hcb
        have H1 := Lib.hid (show 0 + ((ms.drop k).map bv).length ≤ maxLen by simp [maxLen]; omega)
        have H2 := Lib.hid (show (0 + ((ms.drop k).map bv).length) * 1 ≤ 140737488355328 by simp; omega)
        have H3 := Lib.hid (show w.heap.size ≤ (w.alloc (.cells #[] 5)).heap.size by simp)
        go_wp2_with (at_builtin; refine wpList_append_sl _ rfl (.tmp 17) (.tmp 20) 24 rfl w.heap.size 5 i0 _ 1 Tryz.underlying24 hi0 hz0 hz1 hz2 rfl _ 0 [] rfl (World.ownsRow_lit w #[] 0 (Nat.le_refl _) (by simp [maxLen]) rfl) w.heap.size _ (((ms.drop k).map bv)) rfl HC.out (oneCell_bv _) H1.out H2.out H3.out ?_; intro v' w1 hown hg; have HO := Lib.hid hown; clear hown; have HG1 := Lib.hid hg; clear hg)
        go_ret
        refine ⟨v', ms.drop k, rfl, HB.out, by simp, ?_, ((Below.refl _ w).alloc (Nat.le_refl _) _).grown HG1.out (by simp) (fun q hq => Nat.le_of_eq (Option.some.inj hq))⟩
        exact Sl.of_own (base := w.heap.size) (e := 5) (by simpa using HO.out)
    · obtain rfl : k = ms.length := by omega
      have hcb := cut_bytes ms hms ms.length (Nat.le_refl _) hz.out (.inl rfl)
      rw [List.drop_length] at hcb
      have HB := Lib.hid hcb; clear hcb
      have H1 := Lib.hid (show 0 + ([] : List Value).length ≤ maxLen by simp)
      have H2 := Lib.hid (show (0 + ([] : List Value).length) * 1 ≤ 140737488355328 by simp)
      have H3 := Lib.hid (show w.heap.size ≤ (w.alloc (.cells #[] 5)).heap.size by simp)
      have h1n := Lib.hid (show ∀ u ∈ ([] : List Value), u.oneCell' = true by simp)
      clear hr'
      by_cases hck : c = ms.length
      · subst hck
        go_wp2_with (at_builtin; refine wpList_append_sl _ rfl (.tmp 17) (.tmp 20) 24 rfl w.heap.size 5 i0 _ 1 Tryz.underlying24 hi0 hz0 hz1 hz2 rfl _ 0 [] rfl (World.ownsRow_lit w #[] 0 (Nat.le_refl _) (by simp [maxLen]) rfl) w.heap.size _ [] rfl (Sl.empty _ _ _ _) h1n.out H1.out H2.out H3.out ?_; intro v' w1 hown hg; have HO := Lib.hid hown; clear hown; have HG1 := Lib.hid hg; clear hg)
        go_ret
        refine ⟨v', [], rfl, HB.out, by simp, ?_, ((Below.refl _ w).alloc (Nat.le_refl _) _).grown HG1.out (by simp) (fun q hq => Nat.le_of_eq (Option.some.inj hq))⟩
        exact Sl.of_own (base := w.heap.size) (e := 5) (by simpa using HO.out)
      · go_wp2_with (at_builtin; refine wpList_append_sl _ rfl (.tmp 17) (.tmp 20) 24 rfl w.heap.size 5 i0 _ 1 Tryz.underlying24 hi0 hz0 hz1 hz2 rfl _ 0 [] rfl (World.ownsRow_lit w #[] 0 (Nat.le_refl _) (by simp [maxLen]) rfl) w.heap.size _ [] rfl (Sl.empty _ _ _ _) h1n.out H1.out H2.out H3.out ?_; intro v' w1 hown hg; have HO := Lib.hid hown; clear hown; have HG1 := Lib.hid hg; clear hg)
        go_ret
        refine ⟨v', [], rfl, HB.out, by simp, ?_, ((Below.refl _ w).alloc (Nat.le_refl _) _).grown HG1.out (by simp) (fun q hq => Nat.le_of_eq (Option.some.inj hq))⟩
        exact Sl.of_own (base := w.heap.size) (e := 5) (by simpa using HO.out)


theorem of_anyX (neg : Bool) (ms : List Nat) (v : Value) (w : World) (hms : ∀ x ∈ ms, x < 256) (hlen : ms.length ≤ 140737488355328) (h : Sl w w.heap.size v (ms.map bv)) :
    Calls Tryz.prog 36 #[.bool neg, v] w (OfPost (bval ms) neg w) := by
  have HM := Lib.hid hms
  have HS : Hid (Sl (w.alloc (.cells #[.bool false, .slice none 0 0] 64)) (w.alloc (.cells #[.bool false, .slice none 0 0] 64)).heap.size v (ms.map bv)) :=
    (h.below ((Below.refl _ _).alloc (Nat.le_refl _) _)).more (by simp)
  clear hms h
  go_enter Tryz.func36, Tryz.ntmps36
  go_wp2_with fail
  refine (cut_anyX ms v _ HM.out hlen HS.out).mono ?_
  rintro e w1 ⟨v1, ns, rfl, hB, hl, hS, hb⟩
  have hpos := Bytes.nil_iff hB
  obtain ⟨a, c, rfl, hc, hr⟩ := id hS
  have HSS := Lib.hid hS; clear hS
  have HB := Lib.hid hB; clear hB
  have hk : Blk w1 w.heap.size 64 [.bool false, .slice none 0 0] := (Blk.new w 64 [.bool false, .slice none 0 0]).below hb (by simp)
  have c0 : w1.cell? ⟨w.heap.size, 0, none⟩ = some (.bool false) := hk.cell 0 (by simp)
  have c1 : w1.cell? ⟨w.heap.size, 1, none⟩ = some (.slice none 0 0) := hk.cell 1 (by simp)
  have f0 := hk.free 0
  have f1 := hk.free 1
  have hlt := hk.lt
  have hbel : Below w.heap.size w w1 := ((Below.refl _ w).alloc (Nat.le_refl _) (.cells #[.bool false, .slice none 0 0] 64)).trans (hb.mono (by simp))
  have HBL := Lib.hid hbel; have HK := Lib.hid hk
  clear hbel hk hb hr
  have FIN : Hid (∀ x : Bool, x = (neg && decide (0 < bval ms)) → OfPost (bval ms) neg w (.returned (.agg #[.bool x, .slice a (ns.map bv).length c])) ((w1.setCell ⟨w.heap.size, 0, none⟩ (.bool x)).setCell ⟨w.heap.size, 1, none⟩ (.slice a (ns.map bv).length c))) := by
    intro x hx
    subst hx
    have hb1 := (HBL.out.setCell (p := ⟨w.heap.size, 0, none⟩) (Nat.le_refl _) (.bool (neg && decide (0 < bval ms)))).setCell (p := ⟨w.heap.size, 1, none⟩) (Nat.le_refl _) (.slice a (ns.map bv).length c)
    refine ⟨_, ns, rfl, HB.out, ?_, hb1⟩
    have s1 := HSS.out.far HK.out (not_bv (by simp [bv]) ns) 0 (.bool (neg && decide (0 < bval ms)))
    have s2 := s1.far (HK.out.set 0 _) (not_bv (by simp [bv]) ns) 1 (.slice a (ns.map bv).length c)
    simpa [World.setCell] using s2
  simp only [List.length_map] at FIN ⊢
  cases neg with
  | false =>
    go_wp2_with fail
    refine bodyPost_ret (v := .agg #[.bool false, .slice a ns.length c]) (by simp [results, Tryz.results36, go_sem, c0, c1]) rfl ?_
    exact FIN.out false rfl
  | true =>
    by_cases h0 : 0 < ns.length
    · have e1 : (true && decide (0 < bval ms)) = true := by
        have : ¬ bval ms = 0 := fun h => by rw [hpos.2 h] at h0; simp at h0
        simp; omega
      have E1 := Lib.hid e1
      clear hpos e1
      go_wp2_with fail
      refine bodyPost_ret (v := .agg #[.bool true, .slice a ns.length c]) (by simp [results, Tryz.results36, go_sem, c0, c1]) rfl ?_
      exact FIN.out true E1.out.symm
    · obtain rfl : ns = [] := List.eq_nil_of_length_eq_zero (by omega)
      have e1 : (true && decide (0 < bval ms)) = false := by
        rw [hpos.1 rfl]; rfl
      have E1 := Lib.hid e1
      clear hpos e1
      go_wp2_with fail
      refine bodyPost_ret (v := .agg #[.bool false, .slice a 0 c]) (by simp [results, Tryz.results36, go_sem, c0, c1]) rfl ?_
      exact FIN.out false E1.out.symm


set_option maxHeartbeats 1600000 in
theorem order_anyX (m n : Nat) (x y : Value) (w : World) (hx : By w w.heap.size x m) (hy : By w w.heap.size y n) (hm : FitX m) (hn : FitX n) :
    Calls Tryz.prog 52 #[x, y] w (CmpPost (cmpN m n) w) := by
  obtain ⟨xs, rx, hx⟩ := hx
  obtain ⟨ys, ry, hy⟩ := hy
  have lx := rx.length_leX hm
  have ly := ry.length_leX hn
  obtain ⟨a1, c1, rfl, hc1, hr1⟩ := hx
  obtain ⟨a2, c2, rfl, hc2, hr2⟩ := hy
  simp only [List.length_map, ne_eq, List.map_eq_nil_iff] at hc1 hc2 hr1 hr2 ⊢
  rcases Nat.lt_trichotomy xs.length ys.length with hlt | heq | hgt
  · have e := cmpN_lt (Rep.len_lt (by omega) rx ry (by simpa using hlt))
    rw [e]
    have hne : ¬ ((xs.length : Int) = ys.length) := by omega
    clear hr1 hr2 rx ry e hm hn
    go_enter Tryz.func52, Tryz.ntmps52
    go_wp2_with fail
    go_ret
    exact ⟨rfl, Qt.refl _⟩
  · obtain ⟨K, hK⟩ : ∃ K, K = xs.length := ⟨_, rfl⟩
    have HK1 : Hid (xs.length = K) := hK.symm
    have HK2 : Hid (ys.length = K) := by show _ = _; omega
    have R1 : Hid (∀ k, k < K → ∃ b o, a1 = some ⟨b, o, none⟩ ∧ w.cell? ⟨b, o + k, none⟩ = some (.int .u8 ((xs.getD k 0 : Nat) : Int)) ∧ xs.getD k 0 < 256) := Lib.hid (fun k hk => by
      obtain ⟨b1, o1, rfl, _, r1⟩ := hr1 (fun h => by rw [h] at hK; simp only [List.length_nil] at hK; omega)
      have := r1 k (by simp; omega)
      rw [getD_map_bv xs k (by omega)] at this
      exact ⟨b1, o1, rfl, this, rx.lt _ (by rw [List.getD_eq_getElem?_getD, List.getElem?_eq_getElem (by omega)]; simp)⟩)
    have R2 : Hid (∀ k, k < K → ∃ b o, a2 = some ⟨b, o, none⟩ ∧ w.cell? ⟨b, o + k, none⟩ = some (.int .u8 ((ys.getD k 0 : Nat) : Int)) ∧ ys.getD k 0 < 256) := Lib.hid (fun k hk => by
      obtain ⟨b2, o2, rfl, _, r2⟩ := hr2 (fun h => by rw [h] at heq; simp only [List.length_nil] at heq; omega)
      have := r2 k (by simp; omega)
      rw [getD_map_bv ys k (by omega)] at this
      exact ⟨b2, o2, rfl, this, ry.lt _ (by rw [List.getD_eq_getElem?_getD, List.getElem?_eq_getElem (by omega)]; simp)⟩)
    rw [← hK] at hc1 lx ⊢
    rw [← heq, ← hK] at hc2 ⊢
    have RX := Lib.hid rx
    have RY := Lib.hid ry
    obtain ⟨R, hR⟩ : ∃ R, R = cmpN m n := ⟨_, rfl⟩
    have HR : Hid (cmpN m n = R) := hR.symm
    rw [← hR]
    clear hr1 hr2 rx ry heq hm hn hK hR ly
    go_enter Tryz.func52, Tryz.ntmps52
    go_wp2_with fail
    go_loopw [5] (fun i wr => ∃ k : Nat, k ≤ K ∧ i = .int .i64 k ∧ Hid (xs.take k = ys.take k) ∧ Hid (Qt w wr)) (fun i _ => K - (intOf i).toNat)
    case atStart => exact ⟨0, by omega, rfl, Lib.hid (by simp), Qt.refl w⟩
    case round =>
      obtain ⟨k, hk, rfl, hd, hq⟩ := hrel
      by_cases hkk : k < K
      · obtain ⟨b1, o1, rfl, q1, hu⟩ := R1.out k hkk
        obtain ⟨b2, o2, rfl, q2, hv⟩ := R2.out k hkk
        rw [← hq.out.cell] at q1 q2
        have hlt : Hid (xs.getD k 0 < ys.getD k 0 → R = -1) := Lib.hid (fun h => by
          rw [← HR.out, cmpN_lt (Bytes.lt_at RX.out RY.out k (by have := HK1.out; omega) (by have := HK1.out; have := HK2.out; omega) hd.out h)])
        have hgt : Hid (ys.getD k 0 < xs.getD k 0 → R = 1) := Lib.hid (fun h => by
          rw [← HR.out, cmpN_gt (Bytes.lt_at RY.out RX.out k (by have := HK2.out; omega) (by have := HK1.out; have := HK2.out; omega) hd.out.symm h)])
        have hdn : Hid (xs.getD k 0 = ys.getD k 0 → xs.take (k + 1) = ys.take (k + 1)) := Lib.hid (fun h => take_succ_eq (by have := HK1.out; omega) (by have := HK1.out; have := HK2.out; omega) hd.out h)
        generalize xs.getD k 0 = u at *
        generalize ys.getD k 0 = v at *
        clear hd
        have hbi : (k : Int) < (K : Int) := by omega
        have hbi0 : (0 : Int) ≤ (k : Int) := by omega
        have hbt : ((k : Int)).toNat = k := by omega
        rcases Nat.lt_trichotomy u v with h | h | h
        · obtain rfl := hlt.out h
          have hne : ((u : Int) == (v : Int)) = false := by simp; omega
          clear hlt hgt hdn
          go_wp2_with fail
          go_quiet (fail)
          go_wp2_with fail
          go_quiet (fail)
          go_wp2_with fail
          go_ret
          exact ⟨rfl, (hq.out.drewN _).drewN _⟩
        · subst h
          have D := Lib.hid (hdn.out rfl)
          clear hlt hgt hdn
          go_wp2_with fail
          go_quiet (fail)
          go_wp2_with fail
          go_roundw
          case rel => exact ⟨k + 1, by omega, by go_num, D, hq.out.drewN _⟩
          case measure => simp [intOf]; omega
        · obtain rfl := hgt.out h
          have hne : ((u : Int) == (v : Int)) = false := by simp; omega
          clear hlt hgt hdn
          go_wp2_with fail
          go_quiet (fail)
          go_wp2_with fail
          go_quiet (fail)
          go_wp2_with fail
          go_ret
          exact ⟨rfl, (hq.out.drewN _).drewN _⟩
      · obtain rfl : k = K := by omega
        have hR0 : R = 0 := by
          have h := hd.out
          rw [List.take_of_length_le (by have := HK1.out; omega), List.take_of_length_le (by have := HK2.out; omega)] at h
          have e1 := Rep.val RX.out
          have e2 := Rep.val RY.out
          rw [h] at e1
          rw [← HR.out, ← e1, ← e2, cmpN_eq]
        subst hR0
        go_wp2_with fail
        go_ret
        exact ⟨rfl, hq.out⟩
  · have e := cmpN_gt (Rep.len_lt (by omega) ry rx (by simpa using hgt))
    rw [e]
    have hne : ¬ ((xs.length : Int) = ys.length) := by omega
    clear hr1 hr2 rx ry e hm hn
    go_enter Tryz.func52, Tryz.ntmps52
    go_wp2_with fail
    go_ret
    exact ⟨rfl, Qt.refl _⟩


end Go.Proofs.YtggpaejlmfppoaaGreat
