/- nat.setBytes, (*Int).SetBytes: the number that bytes stand for. -/
import Derived.Test.YtoojgjhfmmohbaaGreatNatSet
namespace Go.Proofs.YtoojgjhfmmohbaaGreat
open Go.RowKit Dig
set_option linter.unusedVariables false
set_option linter.unusedSimpArgs false
set_option maxRecDepth 100000

/-- c words, the first k of which are those of M -/
def wrow (c M k : Nat) : List Value := (dgs 18446744073709551616 k M).map wv ++ zs (.int .u64 0) (c - k)
theorem wrow_length (c M k : Nat) (h : k ≤ c) : (wrow c M k).length = c := by simp [wrow, dgs_length, zs_length]; omega
theorem wrow_zero (c M : Nat) : wrow c M 0 = zs (.int .u64 0) c := by simp [wrow, dgs]
theorem wrow_set (c M k : Nat) (h : k < c) : (wrow c M k).set k (wv (M / 18446744073709551616 ^ k % 18446744073709551616)) = wrow c M (k + 1) := by
  unfold wrow
  rw [dgs_snoc, List.set_append_right _ _ (by simp [dgs_length])]
  have e : c - k = (c - (k + 1)) + 1 := by omega
  simp only [List.length_map, dgs_length, Nat.sub_self, List.map_append, List.map_cons, List.map_nil, List.append_assoc, List.cons_append, List.nil_append]
  rw [e]
  rfl
theorem wrow_sl {w : World} {b c M k : Nat} (h : Blk w b 218 (wrow c M k)) (hk : k ≤ c) : Sl w w.heap.size (.slice (some ⟨b, 0, none⟩) k c) ((dgs 18446744073709551616 k M).map wv) := by
  have := Sl.mk (w := w) (b := b) (o := 0) (B := w.heap.size) (vs := (dgs 18446744073709551616 k M).map wv) (c := c) (h.rd (by rw [wrow_length c M k hk]; simpa [dgs_length] using hk) (fun i hi => by
    rw [Nat.zero_add]; unfold wrow
    rw [List.getD_eq_getElem?_getD, List.getD_eq_getElem?_getD, List.getElem?_append_left hi])) (by simpa [dgs_length] using hk) h.lt
  simpa [dgs_length] using this

def NtPost (m : Nat) (w : World) (e : Ending) (w' : World) : Prop := ∃ v, e = .returned v ∧ Nt w' w'.heap.size v m ∧ Below w.heap.size w w'

theorem bew_any (b o c : Nat) (xs : List Nat) (w : World) (hxs : ∀ x ∈ xs, x < 256) (hlen : xs.length = 8) (hc : 8 ≤ c) (h : Rd w b o (xs.map bv)) :
    Calls Tryz.prog 65 #[.slice (some ⟨b, o, none⟩) 8 c] w (U64Post (bval xs) w) := by
  have Q := Lib.hid (be64_any b o c xs w hxs hlen hc h)
  clear hxs hlen h
  go_enter Tryz.func65, Tryz.ntmps65
  go_wp2_with fail
  refine Q.out.mono ?_
  rintro e w' ⟨n, rfl, rfl⟩
  go_wp2_with fail
  go_ret
  exact ⟨n, rfl, rfl⟩

set_option maxHeartbeats 1600000 in
theorem setBytes_any (ms : List Nat) (buf : Value) (w : World) (hms : ∀ x ∈ ms, x < 256) (hs : Sl w w.heap.size buf (ms.map bv)) (hl : ms.length ≤ 1099511627776) :
    Calls Tryz.prog 61 #[.slice none 0 0, buf] w (NtPost (bval ms) w) := by
  obtain ⟨a, cb, rfl, hcb, hr⟩ := hs
  simp only [List.length_map, ne_eq, List.map_eq_nil_iff] at hcb hr ⊢
  by_cases h0 : ms = []
  · subst h0
    clear hr
    go_enter Tryz.func61, Tryz.ntmps61
    go_wp2_with fail
    refine (make_zero _).mono ?_
    rintro e w' ⟨rfl, rfl⟩
    go_wp2_with fail
    go_rounds 1
    go_rounds 1
    go_ret
    exact ⟨_, rfl, ⟨[], rep_zero, Sl.nil _ _⟩, Below.refl _ _⟩
  · obtain ⟨bb, ob, rfl, hbb, hrd⟩ := hr h0
    have hp : 0 < ms.length := List.length_pos_iff.2 h0
    obtain ⟨L, hL⟩ : ∃ L, L = ms.length := ⟨_, rfl⟩
    have HL : Hid (ms.length = L) := hL.symm
    obtain ⟨n, hn⟩ : ∃ n, n = (L + 8 - 1) / 8 := ⟨_, rfl⟩
    have hn1 : L ≤ 8 * n := by omega
    have hn2 : 8 * n ≤ L + 7 := by omega
    have hn0 : 0 < n := by omega
    have HR := Lib.hid hrd
    have HM := Lib.hid hms
    rw [← hL] at hp hcb hl ⊢
    have HN : Hid ((((L : Int) + 8 - 1) / 8) = (n : Int)) := by show _ = _; omega
    clear hr hrd hms h0 hL hn
    generalize hMM : bval ms = M at *
    have HMM := Lib.hid hMM
    clear hMM
    have hML : M < 18446744073709551616 ^ n := by
      rw [← HMM.out, pow_words]
      have := bval_lt ms HM.out
      rw [HL.out] at this
      exact lt_pow_of this hn1
    have core : ∀ (W : World) (c : Nat), n ≤ c → Blk W w.heap.size 218 (wrow c M n) → Calls Tryz.prog 66 #[.slice (some ⟨w.heap.size, 0, none⟩) n c] W fun e w' => ∃ k : Nat, e = .returned (.slice (some ⟨w.heap.size, 0, none⟩) k c) ∧ Nt W W.heap.size (.slice (some ⟨w.heap.size, 0, none⟩) k c) M ∧ W = w' := by
      intro W c hc hb
      have hsl := wrow_sl hb hc
      have hdl := dgs_length 18446744073709551616 n M
      have h := norm_any (dgs 18446744073709551616 n M) (some ⟨w.heap.size, 0, none⟩) c W.heap.size W (by rw [hdl]; exact hsl) (dgs_lt _ (by omega) _ _) (by omega)
      rw [hdl] at h
      refine h.mono ?_
      rintro e w' ⟨rfl, rfl⟩
      have hrep := strip_rep 18446744073709551616 (dgs 18446744073709551616 n M) (dgs_lt _ (by omega) _ _)
      rw [dgs_val_of _ _ _ hML] at hrep
      exact ⟨_, rfl, ⟨_, hrep, norm_sl (by rw [hdl]; exact hsl)⟩, rfl⟩
    have CORE := Lib.hid core
    clear core hML
    go_enter Tryz.func61, Tryz.ntmps61
    go_wp2_with fail
    rw [HN.out]
    refine (make_any n _ hn0 (by omega)).mono ?_
    rintro e w1 ⟨c, hc1, hc2, rfl, hw1⟩
    have hk1 : Blk w1 w.heap.size 218 (wrow c M 0) := by rw [wrow_zero, hw1]; exact Blk.new _ _ _
    have hb1 : Below w.heap.size w w1 := by rw [hw1]; exact (Below.refl _ _).alloc (Nat.le_refl _) _
    have HK1 := Lib.hid hk1
    have HB1 := Lib.hid hb1
    clear hw1 hk1 hb1
    go_wp2_with fail
    go_loopw [5, 6] (fun i j wr => ∃ k t : Nat, t + 8 * k ≤ L ∧ L ≤ t + 8 * k ∧ j = .int .i64 k ∧ i = .int .i64 t ∧ Hid (Blk wr w.heap.size 218 (wrow c M k)) ∧ Hid (Below w.heap.size w wr)) (fun i _ _ => (intOf i).toNat)
    case atStart => exact ⟨0, L, by omega, by omega, rfl, rfl, HK1, HB1⟩
    case round =>
      obtain ⟨k, t, ht1, ht2, rfl, rfl, hb, hw⟩ := hrel
      by_cases h8 : 8 ≤ t
      · have hkc : k < c := by omega
        have e1 := word_of_bytes ms HM.out k t (by rw [HL.out]; omega) h8
        rw [HMM.out] at e1
        have hchunk : Hid (∀ n : Nat, Calls Tryz.prog 65 #[.slice (some ⟨bb, ob + (t - 8), none⟩) 8 (cb - (t - 8))] wr (U64Post (bval ((ms.drop (t - 8)).take 8)) wr)) := fun n =>
          bew_any bb (ob + (t - 8)) (cb - (t - 8)) _ wr (fun x hx => HM.out x (List.mem_of_mem_drop (List.mem_of_mem_take hx))) (by have := HL.out; simp; omega) (by omega) (by
            have h1 := ((HR.out.below hw.out hbb).drop (t - 8)).take 8
            rwa [← List.map_drop, ← List.map_take] at h1)
        rw [e1] at hchunk
        have hcell := hb.out.cell k (by rw [wrow_length c M k (by omega)]; omega)
        have hf := hb.out.free k
        have hset := Lib.hid (wrow_set c M k hkc)
        generalize (wrow c M k).getD k undef = cv at *
        generalize M / 18446744073709551616 ^ k % 18446744073709551616 = y at *
        clear e1
        go_wp2_with fail
        rw [show t - (t - 8) = 8 from by omega]
        refine (hchunk.out 0).mono ?_
        rintro e w2 ⟨nq, rfl, rfl⟩
        go_wp2_with fail
        go_roundw
        case rel =>
          refine ⟨k + 1, t - 8, by omega, by omega, by go_num, by go_num, Lib.hid ?_, Lib.hid ((below_drewN hw.out nq).setCell (Nat.le_refl _) _)⟩
          have := (hb.out.drewN nq).set k (wv y)
          rw [hset.out] at this
          exact this
        case measure => simp [intOf]; omega
      · have etop := top_of_bytes ms HM.out k t (by rw [HL.out]; omega)
        rw [HMM.out] at etop
        have hy : M / 18446744073709551616 ^ k < 256 ^ t := by
          rw [← etop]
          have := bval_lt (ms.take t) (fun x hx => HM.out x (List.mem_of_mem_take hx))
          have e := HL.out
          rwa [List.length_take, Nat.min_eq_left (by omega)] at this
        by_cases ht0 : t = 0
        · subst ht0
          have hkn : k = n := by omega
          subst hkn
          clear etop hy
          go_wp2_with fail
          refine (CORE.out wr c hc1 hb.out).mono ?_
          rintro e w' ⟨q, rfl, hnt, rfl⟩
          have HNT := Lib.hid hnt
          clear hnt
          go_wp2_with fail
          go_ret
          exact ⟨_, rfl, HNT.out, hw.out⟩
        · have hkn : k + 1 = n := by omega
          have hk1 : k = n - 1 := by omega
          have ET := Lib.hid etop
          have hy2 : M / 18446744073709551616 ^ k < 18446744073709551616 := by
            have : (256 : Nat) ^ t ≤ 256 ^ 8 := Nat.pow_le_pow_right (by omega) (by omega)
            have e8 : (256 : Nat) ^ 8 = 18446744073709551616 := by decide
            omega
          have hset := Lib.hid (wrow_set c M k (by omega))
          have hbyte := Lib.hid (fun j (hj : j < t) => by
            have := byte_up ms HM.out t j (by rw [HL.out]; omega) hj
            rw [etop] at this
            exact this)
          have HY := Lib.hid hy
          have HY2 := Lib.hid hy2
          clear etop hy hy2
          generalize M / 18446744073709551616 ^ k = Y at *
          go_wp2_with fail
          obtain ⟨wo, rfl⟩ : ∃ wo : World, wo = wr := ⟨_, rfl⟩
          go_loop [5, 7, 8] (fun i d s => ∃ j r : Nat, r + j ≤ t ∧ t ≤ r + j ∧ i = .int .i64 r ∧ d = .int .u64 ((Y % 256 ^ j : Nat) : Int) ∧ s = .int .u64 (8 * (j : Int))) (fun i _ _ => (intOf i).toNat)
          case atStart => exact ⟨0, t, by omega, by omega, rfl, by simp [Nat.mod_one], rfl⟩
          case round =>
            obtain ⟨j, r, hj1, hj2, rfl, rfl, rfl⟩ := hrel
            by_cases hr0 : 0 < r
            · have hcell := (HR.out.below hw.out hbb) (r - 1) (by have := HL.out; simp; omega)
              rw [getD_map_bv ms (r - 1) (by have := HL.out; omega)] at hcell
              have hx : ms.getD (r - 1) 0 < 256 := HM.out _ (by rw [List.getD_eq_getElem?_getD, List.getElem?_eq_getElem (by have := HL.out; omega)]; simp)
              have hup := Lib.hid (show Y % 256 ^ (j + 1) = Y % 256 ^ j + 256 ^ j * ms.getD (r - 1) 0 by
                have := hbyte.out j (by omega)
                rwa [show t - j - 1 = r - 1 by omega] at this)
              generalize ms.getD (r - 1) 0 = x at *
              have hd : Y % 256 ^ j < 18446744073709551616 := Nat.lt_of_le_of_lt (Nat.mod_le _ _) HY2.out
              have hd2 := Lib.hid (show Y % 256 ^ j < 256 ^ j from Nat.mod_lt _ (Nat.pow_pos (by omega)))
              generalize Y % 256 ^ j = d at *
              have hor := Lib.hid (or_up j d x (by omega) hd2.out hx)
              go_wp2
              go_round
              case rel =>
                refine ⟨j + 1, r - 1, by omega, by omega, by go_num, ?_, by go_num⟩
                rw [hor.out, hup.out]
              case measure => simp [intOf]; omega
            · obtain rfl : r = 0 := by omega
              obtain rfl : j = t := by omega
              have hYt := HY.out
              rw [Nat.mod_eq_of_lt hYt]
              have hcell := hb.out.cell k (by rw [wrow_length c M k (by omega)]; omega)
              have hf := hb.out.free k
              have hYm : Y % 18446744073709551616 = Y := Nat.mod_eq_of_lt HY2.out
              rw [hYm] at hset
              have e1 : k = n - 1 := hk1
              subst e1
              clear hYt hYm hk1 hkn
              generalize (wrow c M (n - 1)).getD (n - 1) undef = cv at *
              go_wp2_with fail
              have hb2 : Blk (wo.setCell ⟨w.heap.size, n - 1, none⟩ (wv Y)) w.heap.size 218 (wrow c M n) := by
                have := hb.out.set (n - 1) (wv Y)
                rw [hset.out] at this
                rwa [show n - 1 + 1 = n by omega] at this
              refine (CORE.out _ c hc1 hb2).mono ?_
              rintro e w' ⟨q, rfl, hnt, rfl⟩
              have HNT := Lib.hid hnt
              clear hnt hb2
              go_wp2_with fail
              go_ret
              exact ⟨_, rfl, HNT.out, hw.out.setCell (Nat.le_refl _) _⟩
end Go.Proofs.YtoojgjhfmmohbaaGreat
