/- addVW over the row itself: z and x are the same words. -/
import Derived.Test.YtpcnmgldmnncoaaGreatDoorMVec2
import Derived.Test.YtpcnmgldmnncoaaGreatDoorMDb
namespace Go.Proofs.YtpcnmgldmnncoaaGreatDoor
open Go.RowKit Dig
set_option linter.unusedVariables false
set_option linter.unusedSimpArgs false
set_option maxRecDepth 100000

/-- what is laid stands there already -/
theorem splice_same (L B : List Value) (o : Nat) (hl : o + B.length ≤ L.length) (h : ∀ i, i < B.length → L.getD (o + i) undef = B.getD i undef) : splice L o B = L := by
  unfold splice
  have e : B = (L.drop o).take B.length := by
    apply List.ext_getElem?
    intro i
    rcases Nat.lt_or_ge i B.length with hi | hi
    · have := h i hi
      rw [List.getElem?_take, if_pos hi, List.getElem?_drop, List.getElem?_eq_getElem hi, List.getElem?_eq_getElem (by omega)]
      rw [List.getD_eq_getElem?_getD, List.getD_eq_getElem?_getD, List.getElem?_eq_getElem hi, List.getElem?_eq_getElem (by omega)] at this
      simp at this
      rw [this]
    · rw [List.getElem?_eq_none hi, List.getElem?_eq_none (by simp; omega)]
  have e2 : L.drop (o + B.length) = (L.drop o).drop B.length := by rw [List.drop_drop]
  rw [e2]
  conv => lhs; rw [e]
  have e3 : ((L.drop o).take B.length).length = B.length := by simp; omega
  rw [e3, List.take_append_drop, List.take_append_drop]
set_option maxHeartbeats 1600000 in
theorem addVW_self (xs : List Nat) (y : Nat) (L : List Value) (b o n cz cx : Nat) (w : World) (D : Nat → List Nat) (c : Nat → Nat) (lx : xs.length = n)
    (hxs : ∀ x ∈ xs, x < 18446744073709551616) (h0 : 0 < n) (hcz : n ≤ cz) (hcx : n ≤ cx) (hk : Blk w b 79 L) (hn : o + n ≤ L.length) (hl : n ≤ 1048576) (hrow : ∀ i, i < n → L.getD (o + i) undef = .int .u64 ((xs.getD i 0 : Nat) : Int))
    (hlen : ∀ k, k ≤ n → (D k).length = k) (hy : y < 18446744073709551616) (h1 : D 1 = [(xs.getD 0 0 + y) % 18446744073709551616]) (h2 : c 1 = (xs.getD 0 0 + y) / 18446744073709551616)
    (hdone : ∀ k, 1 ≤ k → k ≤ n → c k = 0 → D n = D k ++ xs.drop k ∧ c n = 0)
    (hs1 : ∀ k, 1 ≤ k → k < n → c k = 1 → xs.getD k 0 ≠ 18446744073709551615 → D (k + 1) = D k ++ [xs.getD k 0 + 1] ∧ c (k + 1) = 0)
    (hs2 : ∀ k, 1 ≤ k → k < n → c k = 1 → xs.getD k 0 = 18446744073709551615 → D (k + 1) = D k ++ [0] ∧ c (k + 1) = 1) :
    Calls Tryz.prog 66 #[.slice (some ⟨b, o, none⟩) n cz, .slice (some ⟨b, o, none⟩) n cx, .int .u64 y] w (VecPost b (splice L o ((D n).map wv)) (c n) w) := by
  obtain ⟨iW, hiW, hsW⟩ := infoWsz
  have CP : Hid (∀ (W : World) (k : Nat), 1 ≤ k → k ≤ n → c k = 0 → Blk W b 79 (splice L o ((D k).map wv)) → Blk W b 79 (splice L o ((D n).map wv)) ∧ c n = 0) := Lib.hid (by
    intro W k hk1 hkn hc0 hb
    obtain ⟨e1, e2⟩ := hdone k hk1 hkn hc0
    have hlk := hlen k hkn
    refine ⟨?_, e2⟩
    have e3 := splice_splice L o ((D k).map wv) ((xs.drop k).map wv) (by simp; omega)
    rw [List.length_map, hlk] at e3
    rw [e1, List.map_append, ← e3, splice_same _ _ _ ?_ ?_]
    · exact hb
    · rw [length_splice _ _ _ (by simp; omega)]; simp; omega
    · intro i hi
      have hi' : k + i < xs.length := by simp at hi; omega
      rw [Nat.add_assoc, splice_beyond _ _ o (k + i) (by simp; omega) (by simp; omega), hrow (k + i) (by omega), getD_map_wv _ _ (by simpa using hi)]
      congr 2
      rw [List.getD_eq_getElem?_getD, List.getD_eq_getElem?_getD, List.getElem?_drop])
  have PTR := Lib.hid (fun (W : World) => run_neq_ptr_same (P := Tryz.prog) (w := W) (a := ⟨b, o, none⟩) Tryz.underlying107 hiW hsW)
  have A0 := Lib.hid (fun W => bitsAdd_any (xs.getD 0 0) y 0 W (by omega))
  simp only [Nat.add_zero, Int.natCast_zero] at A0
  have LEN := Lib.hid hlen
  have HROW := Lib.hid hrow
  have HX := Lib.hid hxs
  have S1 := Lib.hid hs1
  have S2 := Lib.hid hs2
  have C1 := Lib.hid h2
  have LX := Lib.hid lx
  have hcell := hk.cell o (by omega)
  have hf := hk.free o
  have hr0 := hrow 0 h0
  rw [Nat.add_zero] at hr0
  rw [hr0] at hcell
  have hB1 : Blk (w.setCell ⟨b, o, none⟩ (.int .u64 (((xs.getD 0 0 + y) % 18446744073709551616 : Nat) : Int))) b 79 (splice L o ((D 1).map wv)) := by
    have h := hk.set o (wv ((xs.getD 0 0 + y) % 18446744073709551616))
    have e := splice_set L o 0 [] (wv ((xs.getD 0 0 + y) % 18446744073709551616)) rfl (by omega)
    rw [splice_nil, Nat.add_zero] at e
    rw [e] at h
    rw [h1]
    exact h
  have HB1 := Lib.hid hB1
  have hu1 : Up (some b) w (w.setCell ⟨b, o, none⟩ (.int .u64 (((xs.getD 0 0 + y) % 18446744073709551616 : Nat) : Int))) := (Up.refl _ _).set o _
  have HU1 := Lib.hid hu1
  have gx := hxs _ (show xs.getD 0 0 ∈ xs by rw [List.getD_eq_getElem?_getD, List.getElem?_eq_getElem (by omega)]; simp)
  have hcc : (xs.getD 0 0 + y) / 18446744073709551616 = 0 ∨ (xs.getD 0 0 + y) / 18446744073709551616 = 1 := by omega
  have hbl := hk.lt
  generalize (xs.getD 0 0 + y) % 18446744073709551616 = d at *
  generalize (xs.getD 0 0 + y) / 18446744073709551616 = c0 at *
  generalize xs.getD 0 0 = x0 at *
  clear h1 h2 hk hlen hdone hs1 hs2 hxs lx hB1 hu1 hiW hsW hrow hr0
  rcases hcc with rfl | rfl
  · have hp := PTR.out
    obtain ⟨r1, r2⟩ := CP.out _ 1 (by omega) (by omega) C1.out HB1.out
    have R1 := Lib.hid r1
    have R2 := Lib.hid r2
    clear r1 r2
    go_enter Tryz.func66, Tryz.ntmps66
    go_wp2_with (go_at_call 86; refine (A0.out _).mono ?_; rintro e w' ⟨rfl, rfl⟩)
    go_quiet (fail)
    go_wp2_with fail
    go_ret
    exact ⟨by rw [R2.out]; rfl, R1.out.drewN _, HU1.out.drewN _⟩
  · go_enter Tryz.func66, Tryz.ntmps66
    go_wp2_with (go_at_call 86; refine (A0.out _).mono ?_; rintro e w' ⟨rfl, rfl⟩)
    go_loopw [9, 10] (fun i xi wr => ∃ k : Nat, 1 ≤ k ∧ k ≤ n ∧ i = .int .i64 k ∧ Hid (c k = 1) ∧ Hid (Blk wr b 79 (splice L o ((D k).map wv))) ∧ Hid (Up (some b) w wr)) (fun i _ _ => n - (intOf i).toNat)
    case atStart => exact ⟨1, by omega, by omega, rfl, C1, HB1, HU1⟩
    case round =>
      obtain ⟨k, hk1, hkn, rfl, hc, hb, hu⟩ := hrel
      by_cases hlt : k < n
      · have hlen2 : (splice L o ((D k).map wv)).length = L.length := length_splice _ _ _ (by rw [List.length_map, LEN.out k hkn]; omega)
        have q1 := hb.out.cell (o + k) (by rw [hlen2]; omega)
        rw [splice_beyond _ _ o k (by rw [List.length_map, LEN.out k hkn]; omega) (by rw [List.length_map, LEN.out k hkn]; omega), HROW.out k hlt] at q1
        have f1 := hb.out.free (o + k)
        have lb := hb.out.lt
        have gu := getD_lt HX.out k (by have := LX.out; omega)
        have hi0 : (0 : Int) ≤ (k : Int) := by omega
        have hi1 : (k : Int) < (n : Int) := by omega
        have hset := splice_set L o k ((D k).map wv) (wv (xs.getD k 0 + 1)) (by rw [List.length_map, LEN.out k hkn]) (by omega)
        have hset0 := splice_set L o k ((D k).map wv) (wv 0) (by rw [List.length_map, LEN.out k hkn]) (by omega)
        have st1 := S1.out k hk1 hlt hc.out
        have st2 := S2.out k hk1 hlt hc.out
        have ST1 : Hid (xs.getD k 0 ≠ 18446744073709551615 → Blk (wr.setCell ⟨b, o + k, none⟩ (.int .u64 ((xs.getD k 0 : Nat) + 1))) b 79 (splice L o ((D (k + 1)).map wv)) ∧ c (k + 1) = 0) := Lib.hid (fun h => by
          obtain ⟨e1, e2⟩ := st1 h
          refine ⟨?_, e2⟩
          have := hb.out.set (o + k) (wv (xs.getD k 0 + 1))
          rw [hset] at this
          rw [e1, List.map_append]
          exact this)
        have ST2 : Hid (xs.getD k 0 = 18446744073709551615 → Blk (wr.setCell ⟨b, o + k, none⟩ (.int .u64 0)) b 79 (splice L o ((D (k + 1)).map wv)) ∧ c (k + 1) = 1) := Lib.hid (fun h => by
          obtain ⟨e1, e2⟩ := st2 h
          refine ⟨?_, e2⟩
          have := hb.out.set (o + k) (wv 0)
          rw [hset0] at this
          rw [e1, List.map_append]
          exact this)
        clear hset hset0 st1 st2 hlen2
        generalize xs.getD k 0 = u at *
        by_cases hu15 : u = 18446744073709551615
        · have hq : ((u : Int) != 18446744073709551615) = false := by simp; omega
          have HB2 := Lib.hid (ST2.out hu15).1
          have HC2 := Lib.hid (ST2.out hu15).2
          clear ST1 ST2 hu15
          go_wp2_with fail
          go_roundw
          case rel => exact ⟨k + 1, by omega, by omega, by go_num, HC2, HB2, Lib.hid (hu.out.set _ _)⟩
          case measure => simp [intOf]; omega
        · have hq : ((u : Int) != 18446744073709551615) = true := by simp; omega
          have hu2' : u < 18446744073709551615 := by omega
          have HB2 := Lib.hid (ST1.out hu15).1
          have HC2 := Lib.hid (ST1.out hu15).2
          have HU2 := Lib.hid (hu.out.set (o + k) (.int .u64 ((u : Nat) + 1)))
          have hp := PTR.out
          obtain ⟨r1, r2⟩ := CP.out _ (k + 1) (by omega) (by omega) HC2.out HB2.out
          have R1 := Lib.hid r1
          have R2 := Lib.hid r2
          clear ST1 ST2 hu15 r1 r2
          go_wp2_with fail
          go_quiet (fail)
          go_wp2_with fail
          go_ret
          exact ⟨by rw [R2.out]; rfl, R1.out.drewN _, HU2.out.drewN _⟩
      · have hkn2 : k = n := by omega
        subst hkn2
        have hi1 : ¬ (k : Int) < (k : Int) := by omega
        have HC2 := hc
        go_wp2_with fail
        go_ret
        exact ⟨by rw [HC2.out]; rfl, hb.out, hu.out⟩
theorem addVW_selfNum (xs : List Nat) (y : Nat) (L : List Value) (b o n cz cx : Nat) (w : World) (lx : xs.length = n)
    (hxs : ∀ x ∈ xs, x < 18446744073709551616) (h0 : 0 < n) (hcz : n ≤ cz) (hcx : n ≤ cx) (hk : Blk w b 79 L) (hn : o + n ≤ L.length) (hl : n ≤ 1048576) (hy : y < 18446744073709551616) (hrow : ∀ i, i < n → L.getD (o + i) undef = .int .u64 ((xs.getD i 0 : Nat) : Int)) :
    Calls Tryz.prog 66 #[.slice (some ⟨b, o, none⟩) n cz, .slice (some ⟨b, o, none⟩) n cx, .int .u64 y] w (VecNum b L o n (nval 18446744073709551616 xs + y) ((nval 18446744073709551616 xs + y) / 18446744073709551616 ^ n) w) := by
  have e : svK xs y n = nval 18446744073709551616 xs + y := by unfold svK; rw [List.take_of_length_le (by omega)]
  rw [← e]
  have s0 : svK xs y 0 = y := by simp [svK, nval]
  have st0 := svK_step xs y 0 (by omega)
  rw [s0] at st0
  simp only [Nat.pow_zero, Nat.div_one, Nat.zero_add, Nat.pow_one, dgs, List.nil_append] at st0
  refine addVW_self xs y L b o n cz cx w (fun k => dgs 18446744073709551616 k (svK xs y k)) (fun k => svK xs y k / 18446744073709551616 ^ k) lx hxs h0 hcz hcx hk hn hl hrow (fun k _ => dgs_length _ _ _) hy ?_ ?_ ?_ ?_ ?_
  · simp only [dgs]; rw [st0.1, Nat.add_comm y]
  · simp only [Nat.pow_one]; rw [st0.2, Nat.add_comm y]
  · intro k hk1 hkn hc
    have := svK_done xs y hxs (n - k) k (by omega) hc
    rwa [lx] at this
  · intro k hk1 hkn hc hu
    obtain ⟨e1, e2⟩ := svK_step xs y k (by omega)
    have hlt := getD_lt hxs k (by omega)
    rw [hc] at e1 e2
    rw [Nat.mod_eq_of_lt (by omega), Nat.add_comm 1] at e1
    rw [Nat.div_eq_of_lt (show 1 + xs.getD k 0 < 18446744073709551616 by omega)] at e2
    exact ⟨e1, e2⟩
  · intro k hk1 hkn hc hu
    obtain ⟨e1, e2⟩ := svK_step xs y k (by omega)
    rw [hc, hu] at e1 e2
    exact ⟨e1, e2⟩
end Go.Proofs.YtpcnmgldmnncoaaGreatDoor
