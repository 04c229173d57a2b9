/- addVW, subVW: a row of words and one word more, or less, laid into a row of the caller's own. -/
import Derived.Test.YtbfgjaammmpcdaaGreatDoorVec1
import Derived.Deep.RegionLaw
import Derived.Deep.CutRange
import Derived.IntWalk
import Derived.Deep.RegionHeld3
namespace Go.Proofs.YtbfgjaammmpcdaaGreatDoor
open Go.RowKit Dig
set_option linter.unusedVariables false
set_option linter.unusedSimpArgs false
set_option maxRecDepth 100000

section
variable {P : Program} {w : World}
/-- a pointer into a row of the call's own and one to a cell that can be read: not the same -/
theorem run_sameAddr_rd {b o b1 o1 : Nat} {L : List Value} {t : TypeId} {v : Value} (hk : Blk w b t L) (hc : w.cell? ⟨b1, o1, none⟩ = some v) (hne : b ≠ b1) :
    (sameAddr ⟨b, o, none⟩ ⟨b1, o1, none⟩).run P w = .ok false w := by
  unfold Blk at hk
  obtain ⟨c, tc, lo, hi, hh, hpos⟩ : ∃ (c : Array Value) (tc : TypeId) (lo hi : Nat), w.heap[b1]? = some (.cells c tc (lo, hi)) ∧ 0 < c.size := by
    unfold World.cell? at hc
    simp only at hc
    split at hc
    · rename_i c t' f heq
      obtain ⟨lo, hi⟩ := f
      refine ⟨c, t', lo, hi, heq, ?_⟩
      simp only [Option.isSome_none, Bool.false_eq_true, if_false] at hc
      rcases Nat.lt_or_ge 0 c.size with h | h
      · exact h
      · rw [Array.getElem?_eq_none (by omega)] at hc; cases hc
    · cases hc
  have hne' : ¬ b = b1 := hne
  have hp : ¬ c.size = 0 := by omega
  by_cases hf : w.frozen? ⟨b1, o1, none⟩ = true
  · simp [sameAddr, hne', World.frozen?, hk, hh, noView, viewAt, World.shape?, mayBeOne, stringish, hp]
    try (split <;> simp_all)
  · simp [sameAddr, hne', World.frozen?, hk, hh, noView, viewAt, World.shape?, mayBeOne, stringish, hp]
    try (split <;> simp_all)
theorem run_equalIn_ptr_rd (d : Nat) {t te : TypeId} {i : TypeInfo} {b o b1 o1 : Nat} {L : List Value} {e : TypeId} {v : Value} (ht : P.underlying t = some (.pointer te)) (hte : P.info? te = some i) (hsz : i.size ≠ 0)
    (hk : Blk w b e L) (hc : w.cell? ⟨b1, o1, none⟩ = some v) (hne : b ≠ b1) :
    (Op.equalIn (d + 1) t (.pointer (some ⟨b, o, none⟩)) (.pointer (some ⟨b1, o1, none⟩))).run P w = .ok false w := by
  have h := run_sameAddr_rd (P := P) (o := o) hk hc hne
  simp [Op.equalIn, run_underlying ht, typeInfo, hte, sizeOf, hsz, h]
theorem run_equal_ptr_rd {t te : TypeId} {i : TypeInfo} {b o b1 o1 : Nat} {L : List Value} {e : TypeId} {v : Value} (ht : P.underlying t = some (.pointer te)) (hte : P.info? te = some i) (hsz : i.size ≠ 0)
    (hk : Blk w b e L) (hc : w.cell? ⟨b1, o1, none⟩ = some v) (hne : b ≠ b1) :
    (Op.equal t (.pointer (some ⟨b, o, none⟩)) (.pointer (some ⟨b1, o1, none⟩))).run P w = .ok false w := run_equalIn_ptr_rd 9999 ht hte hsz hk hc hne
theorem run_neq_ptr_rd {t te : TypeId} {i : TypeInfo} {b o b1 o1 : Nat} {L : List Value} {e : TypeId} {v : Value} (ht : P.underlying t = some (.pointer te)) (hte : P.info? te = some i) (hsz : i.size ≠ 0)
    (hk : Blk w b e L) (hc : w.cell? ⟨b1, o1, none⟩ = some v) (hne : b ≠ b1) :
    (binOp .neq t (.pointer (some ⟨b, o, none⟩)) (.pointer (some ⟨b1, o1, none⟩))).run P w = .ok (.bool true) w := by
  simp only [binOp]
  simp [run_equal_ptr_rd ht hte hsz hk hc hne]
end

theorem infoWsz : ∃ i, Tryz.prog.info? 102 = some i ∧ i.size ≠ 0 := by
  obtain ⟨i, hi, hs⟩ := Option.map_eq_some_iff.1 (show (Tryz.prog.info? 102).map (·.size) = some 1 by kernel_rfl)
  exact ⟨i, hi, by omega⟩

set_option maxHeartbeats 1600000 in
theorem addVW_walk (xs : List Nat) (y : Nat) (L : List Value) (b o n cz B : Nat) (x : Value) (w : World) (D : Nat → List Nat) (c : Nat → Nat) (hx : Sl w B x (xs.map wv)) (lx : xs.length = n)
    (hxs : ∀ x ∈ xs, x < 18446744073709551616) (h0 : 0 < n) (hcz : n < cz) (hB : B ≤ b) (hBw : B ≤ w.heap.size) (hk : Blk w b 102 L) (hn : o + n ≤ L.length) (hl : n ≤ 1048576)
    (hlen : ∀ k, k ≤ n → (D k).length = k) (hy : y < 18446744073709551616) (h1 : D 1 = [(xs.getD 0 0 + y) % 18446744073709551616]) (h2 : c 1 = (xs.getD 0 0 + y) / 18446744073709551616)
    (hdone : ∀ k, 1 ≤ k → k ≤ n → c k = 0 → D n = D k ++ xs.drop k ∧ c n = 0)
    (hs1 : ∀ k, 1 ≤ k → k < n → c k = 1 → xs.getD k 0 ≠ 18446744073709551615 → D (k + 1) = D k ++ [xs.getD k 0 + 1] ∧ c (k + 1) = 0)
    (hs2 : ∀ k, 1 ≤ k → k < n → c k = 1 → xs.getD k 0 = 18446744073709551615 → D (k + 1) = D k ++ [0] ∧ c (k + 1) = 1) :
    Calls Tryz.prog 79 #[.slice (some ⟨b, o, none⟩) n cz, x, .int .u64 y] w (VecPost b (splice L o ((D n).map wv)) (c n) w) := by
  obtain ⟨a1, cx, rfl, hcx, _⟩ := id hx
  simp only [List.length_map, lx] at hx hcx ⊢
  obtain ⟨b1, o1, rfl, hb1, -, q0⟩ := hx.word 0 (by omega)
  rw [Nat.add_zero] at q0
  have hrd : Rd w b1 o1 (xs.map wv) := by
    obtain ⟨a', c', hv, hc, hr⟩ := hx
    obtain ⟨b', o', ha, hb, hrd⟩ := hr (by intro h; rw [List.map_eq_nil_iff] at h; subst h; simp at lx; omega)
    simp only [Value.slice.injEq] at hv
    obtain ⟨hv, _⟩ := hv
    rw [← hv] at ha
    injection ha with ha
    injection ha with e1 e2
    subst e1; subst e2
    exact hrd
  have hne : b ≠ b1 := by omega
  have hne' : ¬ b = b1 := hne
  obtain ⟨iW, hiW, hsW⟩ := infoWsz
  -- what a copy of the rest does
  have CP : Hid (∀ (W W' : World) (k : Nat), 1 ≤ k → k ≤ n → c k = 0 → Up (some b) w W → Blk W b 102 (splice L o ((D k).map wv)) → Hid (W'.heap[b]? = some (.cells (splice (splice L o ((D k).map wv)) (o + k) ((xs.drop k).map wv)).toArray 102 (0, 0))) → Blk W' b 102 (splice L o ((D n).map wv)) ∧ c n = 0) := Lib.hid (by
    intro W W' k hk1 hkn hc0 hu hb h
    obtain ⟨e1, e2⟩ := hdone k hk1 hkn hc0
    have hl := hlen k hkn
    have h2 : Blk W' b 102 (splice (splice L o ((D k).map wv)) (o + k) ((xs.drop k).map wv)) := h.out
    have e3 := splice_splice L o ((D k).map wv) ((xs.drop k).map wv) (by simp; omega)
    rw [List.length_map, hl] at e3
    rw [e3, ← List.map_append, ← e1] at h2
    exact ⟨h2, e2⟩)
  have PTR : Hid (∀ (W : World) (k : Nat), Up (some b) w W → Blk W b 102 (splice L o ((D k).map wv)) → ∀ m, (binOp .neq 140 (.pointer (some ⟨b, o, none⟩)) (.pointer (some ⟨b1, o1, none⟩))).run Tryz.prog (W.drewN m) = .ok (.bool true) (W.drewN m)) := Lib.hid (by
    intro W k hu hb m
    have hc : (W.drewN m).cell? ⟨b1, o1, none⟩ = some (.int .u64 ((xs.getD 0 0 : Nat) : Int)) := by
      have := (hrd.up hu (by omega) (by simp; omega)) 0 (by simp; omega)
      rw [getD_map_wv xs 0 (by omega)] at this
      exact this
    exact run_neq_ptr_rd Tryz.underlying140 hiW hsW (hb.drewN m) hc hne)
  have SRC : Hid (∀ (W : World) (k : Nat), Up (some b) w W → k < n → ∀ j v, ((xs.drop k).map wv)[j]? = some v → W.cell? ((⟨b1, o1 + k, none⟩ : Addr).add j) = some v) := Lib.hid (by
    intro W k hu hkn j v hj
    have hj2 : k + j < xs.length := by
      rcases Nat.lt_or_ge j ((xs.drop k).map wv).length with h | h
      · simp at h; omega
      · rw [List.getElem?_eq_none h] at hj; cases hj
    have := (hrd.up hu (by omega) (by simp; omega)) (k + j) (by simp; omega)
    rw [add_zero_off, Nat.add_assoc, this]
    rw [List.getElem?_map, List.getElem?_drop] at hj
    rw [List.getD_eq_getElem?_getD, List.getElem?_map, hj]; rfl)
  have A0 := Lib.hid (fun W => bitsAdd_any (xs.getD 0 0) y 0 W (by omega))
  simp only [Nat.add_zero, Int.natCast_zero] at A0
  have LEN := Lib.hid hlen
  have HRD := Lib.hid hrd
  have HX := Lib.hid hxs
  have S1 := Lib.hid hs1
  have S2 := Lib.hid hs2
  have C1 := Lib.hid h2
  have LX := Lib.hid lx
  have hcell := hk.cell o (by omega)
  have hf := hk.free o
  have hB1 : Blk (w.setCell ⟨b, o, none⟩ (.int .u64 (((xs.getD 0 0 + y) % 18446744073709551616 : Nat) : Int))) b 102 (splice L o ((D 1).map wv)) := by
    have h := hk.set o (wv ((xs.getD 0 0 + y) % 18446744073709551616))
    have e := splice_set L o 0 [] (wv ((xs.getD 0 0 + y) % 18446744073709551616)) rfl (by omega)
    rw [splice_nil, Nat.add_zero] at e
    rw [e] at h
    rw [h1]
    exact h
  have HB1 := Lib.hid hB1
  have hu1 : Up (some b) w (w.setCell ⟨b, o, none⟩ (.int .u64 (((xs.getD 0 0 + y) % 18446744073709551616 : Nat) : Int))) := (Up.refl _ _).set o _
  have HU1 := Lib.hid hu1
  have gx := hxs _ (show xs.getD 0 0 ∈ xs by rw [List.getD_eq_getElem?_getD, List.getElem?_eq_getElem (by omega)]; simp)
  have hcc : (xs.getD 0 0 + y) / 18446744073709551616 = 0 ∨ (xs.getD 0 0 + y) / 18446744073709551616 = 1 := by omega
  generalize L.getD o undef = cv at *
  generalize (xs.getD 0 0 + y) % 18446744073709551616 = d at *
  generalize (xs.getD 0 0 + y) / 18446744073709551616 = c0 at *
  generalize xs.getD 0 0 = x0 at *
  clear h1 h2 hx hk hrd hlen hdone hs1 hs2 hxs lx hB1 hu1 hiW hsW
  rcases hcc with rfl | rfl
  · have hp := PTR.out _ 1 HU1.out HB1.out
    have NN : Hid (((xs.drop 1).map wv).length = Nat.min (n - 1) (n - 1)) := Lib.hid (by have := LX.out; simp; omega)
    have FF : Hid (o + 1 + ((xs.drop 1).map wv).length ≤ (splice L o ((D 1).map wv)).length) := Lib.hid (by
      have h1 := LX.out
      have h2 := LEN.out 1 (by omega)
      rw [length_splice _ _ _ (by rw [List.length_map, h2]; omega)]
      simp; omega)
    have OO := Lib.hid (oneCell_wv (xs.drop 1))
    by_cases hn1 : n = 1
    · subst hn1
      have NIL : xs.drop 1 = [] := List.drop_of_length_le (by have := LX.out; omega)
      have HP : Hid (∀ {W : World} {dp sp : Option Addr}, 0 < ((xs.drop 1).map wv).length → dp = some (⟨b, o + 1, none⟩ : Addr) ∧ ∃ ad, sp = some ad ∧ ∀ j v, ((xs.drop 1).map wv)[j]? = some v → W.cell? (ad.add j) = some v) := Lib.hid (fun h => by rw [NIL] at h; simp at h)
      have hck : ¬ cz = 1 := by omega
      clear NIL
      by_cases hcx1 : cx = 1
      all_goals
        go_enter Tryz.func79, Tryz.ntmps79
        go_wp2_with (go_at_call 100; refine (A0.out _).mono ?_; rintro e w' ⟨rfl, rfl⟩)
        go_quiet (fail)
        go_wp2_with fail
        go_region_law (refine step_copy_up (by rfl) (.tmp 40) (.tmp 42) 68 68 (by rfl) 102 Tryz.underlying68 (by kernel_rfl) _ _ _ _ _ _ (by rfl) (by rfl) b (o + (1)) (splice L o ((D (1)).map wv)) 102 (by exact HB1.out) ((xs.drop (1)).map wv) NN.out HP.out FF.out OO.out w (by exact (HU1.out.drewN _).drewN 1) ?_; intro w2 hk2 hu2)
        go_wp2_with fail
        go_ret
        obtain ⟨r1, r2⟩ := CP.out _ w2 1 (by omega) (by omega) C1.out HU1.out HB1.out hk2
        exact ⟨by rw [r2]; rfl, r1, hu2.out⟩
    · have HP : Hid (∀ m, 0 < ((xs.drop 1).map wv).length → ∀ j v, ((xs.drop 1).map wv)[j]? = some v → (((w.setCell ⟨b, o, none⟩ (.int .u64 (d : Int))).drewN m).drew).cell? ((⟨b1, o1 + 1, none⟩ : Addr).add j) = some v) := Lib.hid (fun m hpos => SRC.out _ 1 ((HU1.out.drewN m).drewN 1) (by omega))
      have hck : ¬ cz = 1 := by omega
      have hck2 : ¬ cx = 1 := by omega
      have hi1 : (1 : Int) ≤ (n : Int) := by omega
      go_enter Tryz.func79, Tryz.ntmps79
      go_wp2_with (go_at_call 100; refine (A0.out _).mono ?_; rintro e w' ⟨rfl, rfl⟩)
      go_quiet (fail)
      go_wp2_with fail
      go_region_law (refine step_copy_up (by rfl) (.tmp 40) (.tmp 42) 68 68 (by rfl) 102 Tryz.underlying68 (by kernel_rfl) _ _ _ _ _ _ (by rfl) (by rfl) b (o + (1)) (splice L o ((D (1)).map wv)) 102 (by exact HB1.out) ((xs.drop (1)).map wv) NN.out (fun h => ⟨rfl, _, rfl, HP.out _ h⟩) FF.out OO.out w (by exact (HU1.out.drewN _).drewN 1) ?_; intro w2 hk2 hu2)
      go_wp2_with fail
      go_ret
      obtain ⟨r1, r2⟩ := CP.out _ w2 1 (by omega) (by omega) C1.out HU1.out HB1.out hk2
      exact ⟨by rw [r2]; rfl, r1, hu2.out⟩
  · go_enter Tryz.func79, Tryz.ntmps79
    go_wp2_with (go_at_call 100; refine (A0.out _).mono ?_; rintro e w' ⟨rfl, rfl⟩)
    go_loopw [9, 10] (fun i xi wr => ∃ k : Nat, 1 ≤ k ∧ k ≤ n ∧ i = .int .i64 k ∧ Hid (c k = 1) ∧ Hid (Blk wr b 102 (splice L o ((D k).map wv))) ∧ Hid (Up (some b) w wr)) (fun i _ _ => n - (intOf i).toNat)
    case atStart => exact ⟨1, by omega, by omega, rfl, C1, HB1, HU1⟩
    case round =>
      obtain ⟨k, hk1, hkn, rfl, hc, hb, hu⟩ := hrel
      by_cases hlt : k < n
      · have hlen2 : (splice L o ((D k).map wv)).length = L.length := length_splice _ _ _ (by rw [List.length_map, LEN.out k hkn]; omega)
        have q1 := (HRD.out.up hu.out (by omega) (by simp; omega)) k (by have := LX.out; simp; omega)
        rw [getD_map_wv xs k (by have := LX.out; omega)] at q1
        have p1 := hb.out.cell (o + k) (by rw [hlen2]; omega)
        have f1 := hb.out.free (o + k)
        have gu := getD_lt HX.out k (by have := LX.out; omega)
        have hi0 : (0 : Int) ≤ (k : Int) := by omega
        have hi1 : (k : Int) < (n : Int) := by omega
        have hset := splice_set L o k ((D k).map wv) (wv (xs.getD k 0 + 1)) (by rw [List.length_map, LEN.out k hkn]) (by omega)
        have hset0 := splice_set L o k ((D k).map wv) (wv 0) (by rw [List.length_map, LEN.out k hkn]) (by omega)
        have st1 := S1.out k hk1 hlt hc.out
        have st2 := S2.out k hk1 hlt hc.out
        have ST1 : Hid (xs.getD k 0 ≠ 18446744073709551615 → Blk (wr.setCell ⟨b, o + k, none⟩ (.int .u64 ((xs.getD k 0 : Nat) + 1))) b 102 (splice L o ((D (k + 1)).map wv)) ∧ c (k + 1) = 0) := Lib.hid (fun h => by
          obtain ⟨e1, e2⟩ := st1 h
          refine ⟨?_, e2⟩
          have := hb.out.set (o + k) (wv (xs.getD k 0 + 1))
          rw [hset] at this
          rw [e1, List.map_append]
          exact this)
        have ST2 : Hid (xs.getD k 0 = 18446744073709551615 → Blk (wr.setCell ⟨b, o + k, none⟩ (.int .u64 0)) b 102 (splice L o ((D (k + 1)).map wv)) ∧ c (k + 1) = 1) := Lib.hid (fun h => by
          obtain ⟨e1, e2⟩ := st2 h
          refine ⟨?_, e2⟩
          have := hb.out.set (o + k) (wv 0)
          rw [hset0] at this
          rw [e1, List.map_append]
          exact this)
        clear hset hset0 st1 st2 hlen2
        generalize (splice L o ((D k).map wv)).getD (o + k) undef = cv2 at *
        generalize xs.getD k 0 = u at *
        by_cases hu15 : u = 18446744073709551615
        · have hq : ((u : Int) != 18446744073709551615) = false := by simp; omega
          have HB2 := Lib.hid (ST2.out hu15).1
          have HC2 := Lib.hid (ST2.out hu15).2
          clear ST1 ST2 hu15
          go_wp2_with fail
          go_roundw
          case rel => exact ⟨k + 1, by omega, by omega, by go_num, HC2, HB2, Lib.hid (hu.out.set _ _)⟩
          case measure => simp [intOf]; omega
        · have hq : ((u : Int) != 18446744073709551615) = true := by simp; omega
          have hu2' : u < 18446744073709551615 := by omega
          have HB2 := Lib.hid (ST1.out hu15).1
          have HC2 := Lib.hid (ST1.out hu15).2
          have HU2 := Lib.hid (hu.out.set (o + k) (.int .u64 ((u : Nat) + 1)))
          have hp := PTR.out _ (k + 1) HU2.out HB2.out
          have NN : Hid (((xs.drop (k + 1)).map wv).length = Nat.min (n - (k + 1)) (n - (k + 1))) := Lib.hid (by have := LX.out; simp; omega)
          have FF : Hid (o + (k + 1) + ((xs.drop (k + 1)).map wv).length ≤ (splice L o ((D (k + 1)).map wv)).length) := Lib.hid (by
            have h1 := LX.out
            have h2 := LEN.out (k + 1) (by omega)
            rw [length_splice _ _ _ (by rw [List.length_map, h2]; omega)]
            simp; omega)
          have OO := Lib.hid (oneCell_wv (xs.drop (k + 1)))
          clear ST1 ST2 hu15
          have hi2 : (0 : Int) ≤ (k : Int) + 1 := by omega
          have hi3 : (k : Int) + 1 ≤ (n : Int) := by omega
          have EW := Lib.hid (show IntKind.i64.wrap ((k : Int) + 1) = (k : Int) + 1 from IntWalk.i64_in _ (by omega))
          have ek : ((k : Int) + 1).toNat = k + 1 := by omega
          have FIN : Hid (∀ w2, Hid (Blk w2 b 102 (splice (splice L o ((D (k + 1)).map wv)) (o + (k + 1)) ((xs.drop (k + 1)).map wv))) → Blk w2 b 102 (splice L o ((D n).map wv)) ∧ c n = 0) := Lib.hid (fun w2 h => CP.out _ w2 (k + 1) (by omega) (by omega) HC2.out HU2.out HB2.out h)
          by_cases hn1 : n = k + 1
          · have NIL : xs.drop (k + 1) = [] := List.drop_of_length_le (by have := LX.out; omega)
            have HP : Hid (∀ {W : World} {dp sp : Option Addr}, 0 < ((xs.drop (k + 1)).map wv).length → dp = some (⟨b, o + (k + 1), none⟩ : Addr) ∧ ∃ ad, sp = some ad ∧ ∀ j v, ((xs.drop (k + 1)).map wv)[j]? = some v → W.cell? (ad.add j) = some v) := Lib.hid (fun h => by rw [NIL] at h; simp at h)
            have hck : ¬ cz = k + 1 := by omega
            clear NIL hn1
            by_cases hcx1 : cx = k + 1
            all_goals
              have ew := EW.out
              go_wp2_with fail
              go_quiet (fail)
              go_wp2_with fail
              go_region_held3 (fun _ => True) (trivial) ((refine step_copy_up (by rfl) (.tmp 69) (.tmp 73) 68 68 (by rfl) 102 Tryz.underlying68 (by kernel_rfl) _ _ _ _ _ _ (by rfl) (by rfl) b (o + (k + 1)) (splice L o ((D (k + 1)).map wv)) 102 (by exact HB2.out) ((xs.drop (k + 1)).map wv) NN.out HP.out FF.out OO.out w (by exact (HU2.out.drewN _).drewN 1) ?_; intro w2 hk2 hu2))
              go_wp2_with fail
              go_ret
              obtain ⟨r1, r2⟩ := FIN.out w2 hk2
              exact ⟨by rw [r2]; rfl, r1, hu2.out⟩
          · have HP : Hid (∀ m, 0 < ((xs.drop (k + 1)).map wv).length → ∀ j v, ((xs.drop (k + 1)).map wv)[j]? = some v → (((wr.setCell ⟨b, o + k, none⟩ (.int .u64 ((u : Nat) + 1))).drewN m).drew).cell? ((⟨b1, o1 + (k + 1), none⟩ : Addr).add j) = some v) := Lib.hid (fun m hpos => SRC.out _ (k + 1) ((HU2.out.drewN m).drewN 1) (by omega))
            have hck : ¬ cz = k + 1 := by omega
            have hck2 : ¬ cx = k + 1 := by omega
            have ew := EW.out
            go_wp2_with fail
            go_quiet (fail)
            go_wp2_with fail
            go_region_held3 (fun _ => True) (trivial) ((refine step_copy_up (by rfl) (.tmp 69) (.tmp 73) 68 68 (by rfl) 102 Tryz.underlying68 (by kernel_rfl) _ _ _ _ _ _ (by rfl) (by rfl) b (o + (k + 1)) (splice L o ((D (k + 1)).map wv)) 102 (by exact HB2.out) ((xs.drop (k + 1)).map wv) NN.out (fun h => ⟨rfl, _, rfl, HP.out _ h⟩) FF.out OO.out w (by exact (HU2.out.drewN _).drewN 1) ?_; intro w2 hk2 hu2))
            go_wp2_with fail
            go_ret
            obtain ⟨r1, r2⟩ := FIN.out w2 hk2
            exact ⟨by rw [r2]; rfl, r1, hu2.out⟩
      · obtain rfl : k = n := by omega
        go_wp2_with fail
        go_ret
        exact ⟨by rw [hc.out]; rfl, hb.out, hu.out⟩
end Go.Proofs.YtbfgjaammmpcdaaGreatDoor
