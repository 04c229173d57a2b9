/- rshVU, (nat).rsh: a row of words shifted down by less than a word; the row that is read may be the row that is written. -/
import Derived.Test.YtbfgjaammmpcdaaGreatDoorMulWW
import Derived.Test.YtbfgjaammmpcdaaGreatDoorMIr
import Derived.Test.YtbfgjaammmpcdaaGreatDoorPow
import Derived.Laws.BitsAllLaws
namespace Go.Proofs.YtbfgjaammmpcdaaGreatDoor
open Go.RowKit Dig
set_option linter.unusedVariables false
set_option linter.unusedSimpArgs false
set_option maxRecDepth 100000

theorem and63_u64 (n : Nat) (h : n < 128) : bits .and .u64 (n : Int) 63 = ((n % 64 : Nat) : Int) := by
  have h2 : ∀ n : Nat, n < 128 → bits .and .u64 (n : Int) 63 = ((n % 64 : Nat) : Int) := by decide +kernel
  exact h2 n h
set_option maxHeartbeats 1600000 in
theorem rshVUg_any (xs : List Nat) (s : Nat) (L : List Value) (b o n cz c1 b1 o1 : Nat) (w : World) (lx : xs.length = n) (hcz : n ≤ cz) (hc1 : n ≤ c1) (hxs : ∀ x ∈ xs, x < 18446744073709551616) (hs0 : 0 < s) (hs : s < 64) (hn0 : 0 < n)
    (hk : Blk w b 102 L) (hn : o + n ≤ L.length) (hl : n ≤ 1048576) (hread : ∀ wr k j, k ≤ j → j < n → Blk wr b 102 (splice L o ((dgs 18446744073709551616 k (nval 18446744073709551616 xs / 2 ^ s)).map wv)) → Up (some b) w wr → wr.cell? ⟨b1, o1 + j, none⟩ = some (.int .u64 ((xs.getD j 0 : Nat) : Int)) ∧ b1 < wr.heap.size) :
    Calls Tryz.prog 125 #[.slice (some ⟨b, o, none⟩) n cz, .slice (some ⟨b1, o1, none⟩) n c1, .int .u64 (s : Int)] w
      fun e w' => ∃ c : Int, e = .returned (.int .u64 c) ∧ Blk w' b 102 (splice L o ((dgs 18446744073709551616 n (nval 18446744073709551616 xs / 2 ^ s)).map wv)) ∧ Up (some b) w w' := by
  have H1 := Lib.hid hxs
  have LX := Lib.hid lx
  have HK := Lib.hid hk
  have HRD := Lib.hid hread
  obtain ⟨q0, lb0⟩ := hread w 0 0 (Nat.le_refl _) hn0 (by simpa [dgs, splice_nil] using hk) (Up.refl _ _)
  rw [Nat.add_zero] at q0
  have ha1 := and63_u64 s (by omega)
  rw [Nat.mod_eq_of_lt hs] at ha1
  have ha2 := and63_u64 (64 - s) (by omega)
  rw [Nat.mod_eq_of_lt (show 64 - s < 64 by omega), show ((64 - s : Nat) : Int) = 64 - (s : Int) by omega] at ha2
  clear hxs lx hk hread
  go_enter Tryz.func125, Tryz.ntmps125
  go_wp2_with fail
  go_loopw [8] (fun i wr => ∃ k : Nat, k + 1 ≤ n ∧ i = .int .i64 ((k : Int) + 1) ∧ Hid (Blk wr b 102 (splice L o ((dgs 18446744073709551616 k (nval 18446744073709551616 xs / 2 ^ s)).map wv))) ∧ Hid (Up (some b) w wr)) (fun i _ => n - (intOf i).toNat)
  case atStart => exact ⟨0, by omega, rfl, Lib.hid (by simpa [dgs, splice_nil] using HK.out), Lib.hid (Up.refl _ _)⟩
  obtain ⟨k, hkn, rfl, hb, hu⟩ := hrel
  have hlen : (splice L o ((dgs 18446744073709551616 k (nval 18446744073709551616 xs / 2 ^ s)).map wv)).length = L.length := length_splice _ _ _ (by simp [dgs_length]; omega)
  have hcell := hb.out.cell (o + k) (by rw [hlen]; omega)
  have hf := hb.out.free (o + k)
  have lbb := hb.out.lt
  have g1 := getD_lt H1.out k (by rw [LX.out]; omega)
  have hdg := shr_snoc xs s k (by omega) H1.out (by rw [LX.out]; omega)
  have hor1 := shr_or s (xs.getD k 0) (xs.getD (k + 1) 0) (by omega) g1
  have hset := splice_set L o k ((dgs 18446744073709551616 k (nval 18446744073709551616 xs / 2 ^ s)).map wv) (wv (xs.getD k 0 / 2 ^ s + xs.getD (k + 1) 0 * 2 ^ (64 - s) % 18446744073709551616)) (by simp [dgs_length]) (by omega)
  have e3 : (dgs 18446744073709551616 k (nval 18446744073709551616 xs / 2 ^ s)).map wv ++ [wv (xs.getD k 0 / 2 ^ s + xs.getD (k + 1) 0 * 2 ^ (64 - s) % 18446744073709551616)] = (dgs 18446744073709551616 (k + 1) (nval 18446744073709551616 xs / 2 ^ s)).map wv := by rw [hdg]; simp
  rw [e3] at hset
  have NEW := Lib.hid (hb.out.set (o + k) (wv (xs.getD k 0 / 2 ^ s + xs.getD (k + 1) 0 * 2 ^ (64 - s) % 18446744073709551616)))
  rw [hset] at NEW
  have NEU := Lib.hid (hu.out.set (o + k) (wv (xs.getD k 0 / 2 ^ s + xs.getD (k + 1) 0 * 2 ^ (64 - s) % 18446744073709551616)))
  have HV : Hid (bits .or .u64 (((xs.getD k 0 : Nat) : Int) / 2 ^ s) (IntKind.u64.wrap (((xs.getD (k + 1) 0 : Nat) : Int) * 2 ^ (64 - s))) = ((xs.getD k 0 / 2 ^ s + xs.getD (k + 1) 0 * 2 ^ (64 - s) % 18446744073709551616 : Nat) : Int)) := Lib.hid (by
    have e1 : ((xs.getD k 0 : Nat) : Int) / 2 ^ s = ((xs.getD k 0 / 2 ^ s : Nat) : Int) := by push_cast; rfl
    have e2 : ((xs.getD (k + 1) 0 : Nat) : Int) * 2 ^ (64 - s) = ((xs.getD (k + 1) 0 * 2 ^ (64 - s) : Nat) : Int) := by push_cast; rfl
    rw [e1, e2, wrapM, u64_or_nat _ _ (Nat.lt_of_le_of_lt (Nat.div_le_self _ _) g1) (Nat.mod_lt _ (by omega)), hor1])
  have HV0 : Hid ((((xs.getD k 0 : Nat) : Int) / 2 ^ s) = ((xs.getD k 0 / 2 ^ s : Nat) : Int)) := Lib.hid (by push_cast; rfl)
  have HZ : Hid (k + 1 = n → xs.getD (k + 1) 0 = 0) := Lib.hid (fun h => by rw [List.getD_eq_getElem?_getD, List.getElem?_eq_none (by rw [LX.out]; omega)]; rfl)
  by_cases hlt : k + 1 < n
  · obtain ⟨r0, lb1⟩ := HRD.out wr k k (Nat.le_refl _) (by omega) hb.out hu.out
    obtain ⟨r1, _⟩ := HRD.out wr k (k + 1) (by omega) hlt hb.out hu.out
    clear hset e3 hdg hlen hor1 HZ HV0 H1
    generalize xs.getD (k + 1) 0 = y at *
    generalize xs.getD k 0 = x at *
    generalize (x / 2 ^ s + y * 2 ^ (64 - s) % 18446744073709551616) = z at *
    generalize xs.getD 0 0 = x0 at *
    clear g1
    go_wp2_with fail
    go_region
    rw [HV.out]
    go_wp2_with fail
    go_roundw
    case rel => exact ⟨k + 1, by omega, by go_num, Lib.hid NEW.out, Lib.hid (NEU.out.drewN 1)⟩
    case measure => simp [intOf]; omega
  · obtain rfl : n = k + 1 := by omega
    obtain ⟨r0, lb1⟩ := HRD.out wr k k (Nat.le_refl _) (by omega) hb.out hu.out
    rw [HZ.out rfl] at NEW NEU
    simp only [Nat.zero_mul, Nat.zero_mod, Nat.add_zero] at NEW NEU
    have HV1 := HV0
    clear hset e3 hdg hlen hor1 HZ HV HV0 H1
    generalize xs.getD k 0 = x at *
    generalize x / 2 ^ s = z at *
    generalize xs.getD 0 0 = x0 at *
    clear g1
    go_wp2_with fail
    rw [HV1.out]
    go_ret
    exact ⟨_, rfl, NEW.out, NEU.out⟩
theorem rshVU_any (xs : List Nat) (s : Nat) (L : List Value) (b o n cz c1 b1 o1 : Nat) (w : World) (lx : xs.length = n) (hcz : n ≤ cz) (hc1 : n ≤ c1) (hxs : ∀ x ∈ xs, x < 18446744073709551616) (hs0 : 0 < s) (hs : s < 64) (hn0 : 0 < n)
    (hk : Blk w b 102 L) (hn : o + n ≤ L.length) (hl : n ≤ 1048576) (hread : ∀ wr k j, k ≤ j → j < n → Blk wr b 102 (splice L o ((dgs 18446744073709551616 k (nval 18446744073709551616 xs / 2 ^ s)).map wv)) → Up (some b) w wr → wr.cell? ⟨b1, o1 + j, none⟩ = some (.int .u64 ((xs.getD j 0 : Nat) : Int)) ∧ b1 < wr.heap.size) :
    Calls Tryz.prog 98 #[.slice (some ⟨b, o, none⟩) n cz, .slice (some ⟨b1, o1, none⟩) n c1, .int .u64 (s : Int)] w
      fun e w' => ∃ c : Int, e = .returned (.int .u64 c) ∧ Blk w' b 102 (splice L o ((dgs 18446744073709551616 n (nval 18446744073709551616 xs / 2 ^ s)).map wv)) ∧ Up (some b) w w' := by
  have C := Lib.hid (rshVUg_any xs s L b o n cz c1 b1 o1 w lx hcz hc1 hxs hs0 hs hn0 hk hn hl hread)
  clear lx hxs hk hread
  generalize splice L o _ = L' at *
  go_enter Tryz.func98, Tryz.ntmps98
  go_wp2_with fail
  with_reducible refine C.out.mono ?_
  rintro e w' ⟨c, rfl, h1, h2⟩
  have H1 := Lib.hid h1
  have H2 := Lib.hid h2
  clear h1 h2
  go_wp2_with fail
  go_ret
  exact ⟨c, rfl, H1.out, H2.out⟩
theorem rsh_empty (a : Option Addr) (c s : Nat) (w : World) (hs0 : 0 < s) (hs : s < 64) : Calls Tryz.prog 135 #[.slice a 0 c, .slice a 0 c, .int .u64 (s : Int)] w fun e w' => e = .returned (.slice a 0 c) ∧ w = w' := by
  have h0 : ((s : Int) == 0) = false := by simp; omega
  have h1 : (s : Int) / 64 = 0 := by omega
  have h2 : (0 : Int) ≤ (c : Int) := by omega
  go_enter Tryz.func135, Tryz.ntmps135
  go_wp2_with fail
  go_ret
  exact ⟨rfl, rfl⟩
set_option maxHeartbeats 1600000 in
/-- a number of one's own, shifted down in its place -/
theorem rsh_own (g n c s m H : Nat) (xs : List Nat) (L : List Value) (w : World) (lx : xs.length = n) (hn0 : 0 < n) (hnc : n ≤ c) (hc : n ≤ 1048576) (hLc : L.length = c) (hs0 : 0 < s) (hs : s < 64) (hrep : Rep 18446744073709551616 xs m) (hk : Blk w g 102 L) (hH : H ≤ g) (htk : L.take n = xs.map wv) :
    Calls Tryz.prog 135 #[.slice (some ⟨g, 0, none⟩) n c, .slice (some ⟨g, 0, none⟩) n c, .int .u64 (s : Int)] w fun e w' => ∃ v, e = .returned v ∧ Nt w' w'.heap.size v (m / 2 ^ s) ∧ Below H w w' := by
  have h0 : ((s : Int) == 0) = false := by simp; omega
  have h1 : (s : Int) / 64 = 0 := by omega
  have h3 : (s : Int) % 64 = (s : Int) := by omega
  have hwsn : ∀ k, k < n → L.getD k undef = .int .u64 ((xs.getD k 0 : Nat) : Int) := by
    intro k hkn
    have e : (L.take n).getD k undef = (xs.map wv).getD k undef := by rw [htk]
    rw [getD_map_wv xs k (by omega)] at e
    rw [← e, List.getD_eq_getElem?_getD, List.getD_eq_getElem?_getD, List.getElem?_take, if_pos hkn]
  have CM := Lib.hid (make_in g n c n w hnc)
  have hm : m < 18446744073709551616 ^ n := by rw [← lx]; exact hrep.val_lt
  have hval := hrep.val
  have CR := Lib.hid (rshVU_any xs s L g 0 n c c g 0 w lx hnc hnc hrep.lt hs0 hs hn0 hk (by omega) (by omega) (fun wr k j hkj hjn hb hu => by
    refine ⟨?_, hb.lt⟩
    have hD : ((dgs 18446744073709551616 k (nval 18446744073709551616 xs / 2 ^ s)).map wv).length = k := by simp [dgs_length]
    rw [Nat.zero_add, hb.cell j (by rw [splice_len0 _ _ (by omega)]; omega), splice_ge _ _ _ (by omega) (by omega), hwsn j hjn]))
  rw [hval] at CR
  have hmd : m / 2 ^ s < 18446744073709551616 ^ n := Nat.lt_of_le_of_lt (Nat.div_le_self _ _) hm
  have hsr := strip_rep 18446744073709551616 (dgs 18446744073709551616 n (m / 2 ^ s)) (dgs_lt _ (by omega) _ _)
  rw [dgs_val_of _ _ _ hmd] at hsr
  have HSL : Hid (∀ W : World, Blk W g 102 (splice L 0 ((dgs 18446744073709551616 n (m / 2 ^ s)).map wv)) → Sl W W.heap.size (.slice (some ⟨g, 0, none⟩) n c) ((dgs 18446744073709551616 n (m / 2 ^ s)).map wv)) := Lib.hid (fun W h =>
    h.sl 0 _ n c W.heap.size (by simp [dgs_length]) (by rw [splice_len0 _ _ (by rw [List.length_map, dgs_length]; omega)]; omega) (fun i hi => by rw [Nat.zero_add, splice_lt _ _ _ (by rw [List.length_map, dgs_length]; omega)]) hnc h.lt)
  have CN : Hid (∀ W : World, Blk W g 102 (splice L 0 ((dgs 18446744073709551616 n (m / 2 ^ s)).map wv)) → Calls Tryz.prog 69 #[.slice (some ⟨g, 0, none⟩) n c] W (NormPost (some ⟨g, 0, none⟩) (strip (dgs 18446744073709551616 n (m / 2 ^ s))).length c W)) := Lib.hid (fun W h => by
    have h2 := norm_any (dgs 18446744073709551616 n (m / 2 ^ s)) (some ⟨g, 0, none⟩) c W.heap.size W (by rw [dgs_length]; exact HSL.out W h) (dgs_lt _ (by omega) _ _) (by rw [dgs_length]; omega)
    rw [dgs_length] at h2
    exact h2)
  have FIN : Hid (∀ W : World, Blk W g 102 (splice L 0 ((dgs 18446744073709551616 n (m / 2 ^ s)).map wv)) → Nt W W.heap.size (.slice (some ⟨g, 0, none⟩) (strip (dgs 18446744073709551616 n (m / 2 ^ s))).length c) (m / 2 ^ s)) := Lib.hid (fun W h => ⟨_, hsr, norm_sl (by rw [dgs_length]; exact HSL.out W h)⟩)
  have HHg := Lib.hid hH
  have hlg := hk.lt
  have hn1 : (0 : Int) < (n : Int) := by omega
  have hn2 : (0 : Int) ≤ (n : Int) := by omega
  have hn3 : (n : Int) ≤ (c : Int) := by omega
  clear hwsn hm hval hmd hsr HSL hrep hk hH htk lx hLc
  generalize (strip (dgs 18446744073709551616 n (m / 2 ^ s))).length = r at *
  generalize splice L 0 ((dgs 18446744073709551616 n (m / 2 ^ s)).map wv) = L1 at *
  go_enter Tryz.func135, Tryz.ntmps135
  go_wp2_with fail
  with_reducible refine CM.out.mono ?_
  rintro e w' ⟨rfl, rfl⟩
  clear CM
  go_wp2_with fail
  with_reducible refine CR.out.mono ?_
  rintro e w1 ⟨cc, rfl, hk1, hu1⟩
  have CN1 := Lib.hid (CN.out w1 hk1)
  have F := Lib.hid (FIN.out w1 hk1)
  have HB : Hid (Below H w w1) := Lib.hid (Up.below (r := some g) hu1 (by have := HHg.out; omega) (fun j hj => by injection hj with hj; have := HHg.out; omega))
  clear hk1 hu1 CN CR FIN
  go_wp2_with fail
  with_reducible refine CN1.out.mono ?_
  rintro e w2 ⟨rfl, rfl⟩
  go_wp2_with fail
  go_ret
  exact ⟨_, rfl, F.out, HB.out⟩
end Go.Proofs.YtbfgjaammmpcdaaGreatDoor
