/- rshVU, (nat).rsh: a row of words shifted down by less than a word; the row that is read may be the row that is written. lshVU: a row of words shifted up by less than a word, into a row of one's own. -/
import Derived.Test.YtpcnmgldmnncoaaGreatDoorMMul
import Derived.Test.YtpcnmgldmnncoaaGreatDoorMMath
import Derived.Test.YtpcnmgldmnncoaaGreatDoorPow
import Derived.Laws.BitsAllLaws
import Derived.Test.YtpcnmgldmnncoaaGreatDoorMDivRow
import Derived.Test.YtpcnmgldmnncoaaGreatDoorNatAdd
namespace Go.Proofs.YtpcnmgldmnncoaaGreatDoor
open Go.RowKit Dig
set_option linter.unusedVariables false
set_option linter.unusedSimpArgs false
set_option maxRecDepth 100000

theorem and63_u64 (n : Nat) (h : n < 128) : bits .and .u64 (n : Int) 63 = ((n % 64 : Nat) : Int) := by
  have h2 : ∀ n : Nat, n < 128 → bits .and .u64 (n : Int) 63 = ((n % 64 : Nat) : Int) := by decide +kernel
  exact h2 n h
set_option maxHeartbeats 1600000 in
theorem rshVUg_any (xs : List Nat) (s : Nat) (L : List Value) (b o n cz c1 b1 o1 : Nat) (w : World) (lx : xs.length = n) (hcz : n ≤ cz) (hc1 : n ≤ c1) (hxs : ∀ x ∈ xs, x < 18446744073709551616) (hs0 : 0 < s) (hs : s < 64) (hn0 : 0 < n)
    (hk : Blk w b 79 L) (hn : o + n ≤ L.length) (hl : n ≤ 1048576) (hread : ∀ wr k j, k ≤ j → j < n → Blk wr b 79 (splice L o ((dgs 18446744073709551616 k (nval 18446744073709551616 xs / 2 ^ s)).map wv)) → Up (some b) w wr → wr.cell? ⟨b1, o1 + j, none⟩ = some (.int .u64 ((xs.getD j 0 : Nat) : Int)) ∧ b1 < wr.heap.size) :
    Calls Tryz.prog 109 #[.slice (some ⟨b, o, none⟩) n cz, .slice (some ⟨b1, o1, none⟩) n c1, .int .u64 (s : Int)] w
      fun e w' => ∃ c : Int, e = .returned (.int .u64 c) ∧ Blk w' b 79 (splice L o ((dgs 18446744073709551616 n (nval 18446744073709551616 xs / 2 ^ s)).map wv)) ∧ Up (some b) w w' := by
  have H1 := Lib.hid hxs
  have LX := Lib.hid lx
  have HK := Lib.hid hk
  have HRD := Lib.hid hread
  obtain ⟨q0, lb0⟩ := hread w 0 0 (Nat.le_refl _) hn0 (by simpa [dgs, splice_nil] using hk) (Up.refl _ _)
  rw [Nat.add_zero] at q0
  have ha1 := and63_u64 s (by omega)
  rw [Nat.mod_eq_of_lt hs] at ha1
  have ha2 := and63_u64 (64 - s) (by omega)
  rw [Nat.mod_eq_of_lt (show 64 - s < 64 by omega), show ((64 - s : Nat) : Int) = 64 - (s : Int) by omega] at ha2
  clear hxs lx hk hread
  go_enter Tryz.func109, Tryz.ntmps109
  go_wp2_with fail
  go_loopw [8] (fun i wr => ∃ k : Nat, k + 1 ≤ n ∧ i = .int .i64 ((k : Int) + 1) ∧ Hid (Blk wr b 79 (splice L o ((dgs 18446744073709551616 k (nval 18446744073709551616 xs / 2 ^ s)).map wv))) ∧ Hid (Up (some b) w wr)) (fun i _ => n - (intOf i).toNat)
  case atStart => exact ⟨0, by omega, rfl, Lib.hid (by simpa [dgs, splice_nil] using HK.out), Lib.hid (Up.refl _ _)⟩
  obtain ⟨k, hkn, rfl, hb, hu⟩ := hrel
  have hlen : (splice L o ((dgs 18446744073709551616 k (nval 18446744073709551616 xs / 2 ^ s)).map wv)).length = L.length := length_splice _ _ _ (by simp [dgs_length]; omega)
  have hcell := hb.out.cell (o + k) (by rw [hlen]; omega)
  have hf := hb.out.free (o + k)
  have lbb := hb.out.lt
  have g1 := getD_lt H1.out k (by rw [LX.out]; omega)
  have hdg := shr_snoc xs s k (by omega) H1.out (by rw [LX.out]; omega)
  have hor1 := shr_or s (xs.getD k 0) (xs.getD (k + 1) 0) (by omega) g1
  have hset := splice_set L o k ((dgs 18446744073709551616 k (nval 18446744073709551616 xs / 2 ^ s)).map wv) (wv (xs.getD k 0 / 2 ^ s + xs.getD (k + 1) 0 * 2 ^ (64 - s) % 18446744073709551616)) (by simp [dgs_length]) (by omega)
  have e3 : (dgs 18446744073709551616 k (nval 18446744073709551616 xs / 2 ^ s)).map wv ++ [wv (xs.getD k 0 / 2 ^ s + xs.getD (k + 1) 0 * 2 ^ (64 - s) % 18446744073709551616)] = (dgs 18446744073709551616 (k + 1) (nval 18446744073709551616 xs / 2 ^ s)).map wv := by rw [hdg]; simp
  rw [e3] at hset
  have NEW := Lib.hid (hb.out.set (o + k) (wv (xs.getD k 0 / 2 ^ s + xs.getD (k + 1) 0 * 2 ^ (64 - s) % 18446744073709551616)))
  rw [hset] at NEW
  have NEU := Lib.hid (hu.out.set (o + k) (wv (xs.getD k 0 / 2 ^ s + xs.getD (k + 1) 0 * 2 ^ (64 - s) % 18446744073709551616)))
  have HV : Hid (bits .or .u64 (((xs.getD k 0 : Nat) : Int) / 2 ^ s) (IntKind.u64.wrap (((xs.getD (k + 1) 0 : Nat) : Int) * 2 ^ (64 - s))) = ((xs.getD k 0 / 2 ^ s + xs.getD (k + 1) 0 * 2 ^ (64 - s) % 18446744073709551616 : Nat) : Int)) := Lib.hid (by
    have e1 : ((xs.getD k 0 : Nat) : Int) / 2 ^ s = ((xs.getD k 0 / 2 ^ s : Nat) : Int) := by push_cast; rfl
    have e2 : ((xs.getD (k + 1) 0 : Nat) : Int) * 2 ^ (64 - s) = ((xs.getD (k + 1) 0 * 2 ^ (64 - s) : Nat) : Int) := by push_cast; rfl
    rw [e1, e2, wrapM, u64_or_nat _ _ (Nat.lt_of_le_of_lt (Nat.div_le_self _ _) g1) (Nat.mod_lt _ (by omega)), hor1])
  have HV0 : Hid ((((xs.getD k 0 : Nat) : Int) / 2 ^ s) = ((xs.getD k 0 / 2 ^ s : Nat) : Int)) := Lib.hid (by push_cast; rfl)
  have HZ : Hid (k + 1 = n → xs.getD (k + 1) 0 = 0) := Lib.hid (fun h => by rw [List.getD_eq_getElem?_getD, List.getElem?_eq_none (by rw [LX.out]; omega)]; rfl)
  by_cases hlt : k + 1 < n
  · obtain ⟨r0, lb1⟩ := HRD.out wr k k (Nat.le_refl _) (by omega) hb.out hu.out
    obtain ⟨r1, _⟩ := HRD.out wr k (k + 1) (by omega) hlt hb.out hu.out
    clear hset e3 hdg hlen hor1 HZ HV0 H1
    generalize xs.getD (k + 1) 0 = y at *
    generalize xs.getD k 0 = x at *
    generalize (x / 2 ^ s + y * 2 ^ (64 - s) % 18446744073709551616) = z at *
    generalize xs.getD 0 0 = x0 at *
    clear g1
    go_wp2_with fail
    go_region
    rw [HV.out]
    go_wp2_with fail
    go_roundw
    case rel => exact ⟨k + 1, by omega, by go_num, Lib.hid NEW.out, Lib.hid (NEU.out.drewN 1)⟩
    case measure => simp [intOf]; omega
  · obtain rfl : n = k + 1 := by omega
    obtain ⟨r0, lb1⟩ := HRD.out wr k k (Nat.le_refl _) (by omega) hb.out hu.out
    rw [HZ.out rfl] at NEW NEU
    simp only [Nat.zero_mul, Nat.zero_mod, Nat.add_zero] at NEW NEU
    have HV1 := HV0
    clear hset e3 hdg hlen hor1 HZ HV HV0 H1
    generalize xs.getD k 0 = x at *
    generalize x / 2 ^ s = z at *
    generalize xs.getD 0 0 = x0 at *
    clear g1
    go_wp2_with fail
    rw [HV1.out]
    go_ret
    exact ⟨_, rfl, NEW.out, NEU.out⟩
theorem rshVU_any (xs : List Nat) (s : Nat) (L : List Value) (b o n cz c1 b1 o1 : Nat) (w : World) (lx : xs.length = n) (hcz : n ≤ cz) (hc1 : n ≤ c1) (hxs : ∀ x ∈ xs, x < 18446744073709551616) (hs0 : 0 < s) (hs : s < 64) (hn0 : 0 < n)
    (hk : Blk w b 79 L) (hn : o + n ≤ L.length) (hl : n ≤ 1048576) (hread : ∀ wr k j, k ≤ j → j < n → Blk wr b 79 (splice L o ((dgs 18446744073709551616 k (nval 18446744073709551616 xs / 2 ^ s)).map wv)) → Up (some b) w wr → wr.cell? ⟨b1, o1 + j, none⟩ = some (.int .u64 ((xs.getD j 0 : Nat) : Int)) ∧ b1 < wr.heap.size) :
    Calls Tryz.prog 84 #[.slice (some ⟨b, o, none⟩) n cz, .slice (some ⟨b1, o1, none⟩) n c1, .int .u64 (s : Int)] w
      fun e w' => ∃ c : Int, e = .returned (.int .u64 c) ∧ Blk w' b 79 (splice L o ((dgs 18446744073709551616 n (nval 18446744073709551616 xs / 2 ^ s)).map wv)) ∧ Up (some b) w w' := by
  have C := Lib.hid (rshVUg_any xs s L b o n cz c1 b1 o1 w lx hcz hc1 hxs hs0 hs hn0 hk hn hl hread)
  clear lx hxs hk hread
  generalize splice L o _ = L' at *
  go_enter Tryz.func84, Tryz.ntmps84
  go_wp2_with fail
  with_reducible refine C.out.mono ?_
  rintro e w' ⟨c, rfl, h1, h2⟩
  have H1 := Lib.hid h1
  have H2 := Lib.hid h2
  clear h1 h2
  go_wp2_with fail
  go_ret
  exact ⟨c, rfl, H1.out, H2.out⟩
end Go.Proofs.YtpcnmgldmnncoaaGreatDoor

namespace Go.Proofs.YtpcnmgldmnncoaaGreatDoor
open Go.RowKit Dig
set_option linter.unusedVariables false
set_option linter.unusedSimpArgs false
set_option maxRecDepth 100000

theorem shl_carry (xs : List Nat) (s k : Nat) (hs : s ≤ 64) (h : ∀ x ∈ xs, x < 18446744073709551616) (hk : k < xs.length) : nval 18446744073709551616 (xs.take (k + 1)) * 2 ^ s / 18446744073709551616 ^ (k + 1) = xs.getD k 0 / 2 ^ (64 - s) := by
  have e := two64 s hs
  have e1 : 18446744073709551616 ^ (k + 1) = 18446744073709551616 ^ k * 2 ^ (64 - s) * 2 ^ s := by
    rw [Nat.pow_succ, Nat.mul_assoc]; congr 1; rw [Nat.mul_comm]; exact e
  rw [e1, Nat.mul_div_mul_right _ _ (Nat.pow_pos (by omega)), ← Nat.div_div_eq_div_mul, nval_take_succ _ xs k hk, Nat.add_mul_div_left _ _ (Nat.pow_pos (by omega)), Nat.div_eq_of_lt (take_lt h k), Nat.zero_add]
theorem shl_cut (xs : List Nat) (s k : Nat) (hs : s ≤ 64) (h : ∀ x ∈ xs, x < 18446744073709551616) (hk : k < xs.length) : nval 18446744073709551616 xs * 2 ^ s / 18446744073709551616 ^ (k + 1) = xs.getD k 0 / 2 ^ (64 - s) + nval 18446744073709551616 (xs.drop (k + 1)) * 2 ^ s := by
  rw [nval_split xs (k + 1) (by omega), Nat.add_mul, Nat.mul_assoc, Nat.add_mul_div_left _ _ (Nat.pow_pos (by omega)), shl_carry xs s k hs h hk]
theorem shl_top (xs : List Nat) (s n : Nat) (hs : s ≤ 64) (h : ∀ x ∈ xs, x < 18446744073709551616) (hn : xs.length = n + 1) : nval 18446744073709551616 xs * 2 ^ s / 18446744073709551616 ^ (n + 1) = xs.getD n 0 / 2 ^ (64 - s) := by
  rw [shl_cut xs s n hs h (by omega), List.drop_of_length_le (by omega)]; simp [nval]
theorem shl_digit (xs : List Nat) (s k : Nat) (hs : s ≤ 64) (h : ∀ x ∈ xs, x < 18446744073709551616) (hk : k + 1 < xs.length) : nval 18446744073709551616 xs * 2 ^ s / 18446744073709551616 ^ (k + 1) % 18446744073709551616 = xs.getD (k + 1) 0 * 2 ^ s % 18446744073709551616 + xs.getD k 0 / 2 ^ (64 - s) := by
  rw [shl_cut xs s k hs h (by omega), drop_step _ xs (k + 1) hk, Nat.add_mul, Nat.mul_assoc, ← Nat.add_assoc, Nat.add_mul_mod_self_left, Nat.add_comm]
  have g := getD_lt h k (by omega)
  have hlt : xs.getD (k + 1) 0 * 2 ^ s % 18446744073709551616 + xs.getD k 0 / 2 ^ (64 - s) < 18446744073709551616 := by
    rw [← shl_word s (xs.getD (k + 1) 0) (xs.getD k 0) hs g]
    exact Nat.or_lt_two_pow (n := 64) (Nat.mod_lt _ (by omega)) (Nat.lt_of_le_of_lt (Nat.div_le_self _ _) g)
  rw [Nat.add_mod, Nat.mod_eq_of_lt (Nat.lt_of_le_of_lt (Nat.div_le_self _ _) g), Nat.mod_eq_of_lt hlt]
theorem shl_low (xs : List Nat) (s : Nat) (hk : 0 < xs.length) : nval 18446744073709551616 xs * 2 ^ s % 18446744073709551616 = xs.getD 0 0 * 2 ^ s % 18446744073709551616 := by
  have := drop_step 18446744073709551616 xs 0 hk
  rw [List.drop_zero] at this
  rw [this, Nat.add_mul, Nat.mul_assoc, Nat.add_mul_mod_self_left]
/-- the row from place k on -/
def shlK (S n k : Nat) : List Value := (dgs 18446744073709551616 (n - k) (S / 18446744073709551616 ^ k)).map wv
theorem shlK_length (S n k : Nat) : (shlK S n k).length = n - k := by simp [shlK, dgs_length]
theorem shlK_step (S n k : Nat) (hk : k < n) : shlK S n k = wv (S / 18446744073709551616 ^ k % 18446744073709551616) :: shlK S n (k + 1) := by
  unfold shlK
  obtain ⟨j, hj⟩ : ∃ j, n - k = j + 1 := ⟨n - k - 1, by omega⟩
  rw [hj, show n - (k + 1) = j by omega]
  show ((S / 18446744073709551616 ^ k % 18446744073709551616) :: dgs 18446744073709551616 j (S / 18446744073709551616 ^ k / 18446744073709551616)).map wv = _
  rw [Nat.div_div_eq_div_mul, ← Nat.pow_succ]; rfl
set_option maxHeartbeats 1600000 in
theorem lshVUg_any (xs : List Nat) (s : Nat) (L : List Value) (b o n cz B : Nat) (x : Value) (w : World) (hx : Sl w B x (xs.map wv)) (lx : xs.length = n) (hn0 : 0 < n) (hcz : n ≤ cz)
    (hxs : ∀ x ∈ xs, x < 18446744073709551616) (hs0 : 0 < s) (hs : s < 64) (hB : B ≤ b) (hBw : B ≤ w.heap.size) (hk : Blk w b 79 L) (hn : o + n ≤ L.length) (hl : n ≤ 1048576) :
    Calls Tryz.prog 105 #[.slice (some ⟨b, o, none⟩) n cz, x, .int .u64 (s : Int)] w
      (VecPost b (splice L o ((dgs 18446744073709551616 n (nval 18446744073709551616 xs * 2 ^ s)).map wv)) (nval 18446744073709551616 xs * 2 ^ s / 18446744073709551616 ^ n) w) := by
  obtain ⟨a1, c1, rfl, hc1, _⟩ := id hx
  simp only [List.length_map, lx] at hx hc1 ⊢
  obtain ⟨m, rfl⟩ : ∃ m, n = m + 1 := ⟨n - 1, by omega⟩
  have htop := shl_top xs s m (by omega) hxs lx
  rw [htop]
  have hgoal : (dgs 18446744073709551616 (m + 1) (nval 18446744073709551616 xs * 2 ^ s)).map wv = shlK (nval 18446744073709551616 xs * 2 ^ s) (m + 1) 0 := by simp [shlK]
  rw [hgoal]
  have HX := Lib.hid hx
  have H1 := Lib.hid hxs
  have LX := Lib.hid lx
  have HK := Lib.hid hk
  have HW : ∀ j, j < m + 1 → ∃ b1 o1, a1 = some ⟨b1, o1, none⟩ ∧ ∀ wr, Up (some b) w wr → wr.cell? ⟨b1, o1 + j, none⟩ = some (.int .u64 ((xs.getD j 0 : Nat) : Int)) ∧ b1 < wr.heap.size := fun j hj => by
    obtain ⟨b1, o1, h1, hb1, _, _⟩ := hx.word j (by omega)
    refine ⟨b1, o1, h1, fun wr hu => ?_⟩
    obtain ⟨b1', o1', h1', hb1', _, q⟩ := (hx.up hu hBw hB).word j (by omega)
    rw [h1] at h1'
    injection h1' with h1'
    injection h1' with e1 e2
    subst e1 e2
    exact ⟨q, lt_of_cell q⟩
  have HRD := Lib.hid HW
  obtain ⟨b1, o1, ha1, hq⟩ := HW m (by omega)
  obtain ⟨q0, lb0⟩ := hq w (Up.refl _ _)
  subst ha1
  have ha1 := and63_u64 s (by omega)
  rw [Nat.mod_eq_of_lt hs] at ha1
  have ha2 := and63_u64 (64 - s) (by omega)
  rw [Nat.mod_eq_of_lt (show 64 - s < 64 by omega), show ((64 - s : Nat) : Int) = 64 - (s : Int) by omega] at ha2
  have HV0 : Hid ((((xs.getD m 0 : Nat) : Int) / 2 ^ (64 - s)) = ((xs.getD m 0 / 2 ^ (64 - s) : Nat) : Int)) := Lib.hid (by push_cast; rfl)
  clear hx hxs lx hk hgoal htop hq HW
  obtain ⟨S, hS⟩ : ∃ S, S = nval 18446744073709551616 xs * 2 ^ s := ⟨_, rfl⟩
  rw [← hS]
  have HSd := Lib.hid hS
  clear hS
  generalize xs.getD m 0 = xm at *
  have hi0 : (0 : Int) ≤ (m : Int) := by omega
  have hi9 : ¬ ((m + 1 : Nat) : Int) = 0 := by omega
  have ei : (((m + 1 : Nat) : Int) - 1) = (m : Int) := by omega
  have hs9 : ((s : Int) == 0) = false := by rw [beq_eq_false_iff_ne]; omega
  have hm9 : ((m : Int) + 1 == 0) = false := by rw [beq_eq_false_iff_ne]; omega
  go_enter Tryz.func105, Tryz.ntmps105
  go_wp2_with fail
  go_loopw [8] (fun i wr => ∃ k : Nat, k ≤ m ∧ i = .int .i64 (k : Int) ∧ Hid (Blk wr b 79 (splice L (o + (k + 1)) (shlK S (m + 1) (k + 1)))) ∧ Hid (Up (some b) w wr)) (fun i _ => (intOf i).toNat)
  case atStart => exact ⟨m, Nat.le_refl _, by go_num, Lib.hid (by simpa [shlK, dgs, splice_nil] using HK.out), Lib.hid (Up.refl _ _)⟩
  obtain ⟨k, hkn, rfl, hb, hu⟩ := hrel
  have hlen : (splice L (o + (k + 1)) (shlK S (m + 1) (k + 1))).length = L.length := length_splice _ _ _ (by rw [shlK_length]; omega)
  have hcell := hb.out.cell (o + k) (by rw [hlen]; omega)
  have hf := hb.out.free (o + k)
  have lbb := hb.out.lt
  have hset := splice_front L (o + k) (shlK S (m + 1) (k + 1)) (wv (S / 18446744073709551616 ^ k % 18446744073709551616)) (by rw [shlK_length]; omega)
  rw [← shlK_step S (m + 1) k (by omega)] at hset
  have hnew := hb.out.set (o + k) (wv (S / 18446744073709551616 ^ k % 18446744073709551616))
  rw [← Nat.add_assoc, hset] at hnew
  have hneu := hu.out.set (o + k) (wv (S / 18446744073709551616 ^ k % 18446744073709551616))
  by_cases hk0 : 0 < k
  · obtain ⟨j, rfl⟩ : ∃ j, k = j + 1 := ⟨k - 1, by omega⟩
    obtain ⟨b2, o2, ea, q1⟩ := HRD.out j (by omega)
    injection ea with ea
    injection ea with e1 e2
    subst e1 e2
    obtain ⟨r0, _⟩ := q1 wr hu.out
    obtain ⟨b2, o2, ea, q2⟩ := HRD.out (j + 1) (by omega)
    injection ea with ea
    injection ea with e1 e2
    subst e1 e2
    obtain ⟨r1, _⟩ := q2 wr hu.out
    have g1 := getD_lt H1.out j (by rw [LX.out]; omega)
    have hdg := shl_digit xs s j (by omega) H1.out (by rw [LX.out]; omega)
    rw [← HSd.out] at hdg
    rw [hdg] at hnew hneu
    have NEW := Lib.hid hnew
    have NEU := Lib.hid hneu
    have HV : Hid (bits .or .u64 (IntKind.u64.wrap (((xs.getD (j + 1) 0 : Nat) : Int) * 2 ^ s)) (((xs.getD j 0 : Nat) : Int) / 2 ^ (64 - s)) = ((xs.getD (j + 1) 0 * 2 ^ s % 18446744073709551616 + xs.getD j 0 / 2 ^ (64 - s) : Nat) : Int)) := Lib.hid (by
      have e1 : ((xs.getD j 0 : Nat) : Int) / 2 ^ (64 - s) = ((xs.getD j 0 / 2 ^ (64 - s) : Nat) : Int) := by push_cast; rfl
      have e2 : ((xs.getD (j + 1) 0 : Nat) : Int) * 2 ^ s = ((xs.getD (j + 1) 0 * 2 ^ s : Nat) : Int) := by push_cast; rfl
      rw [e1, e2, wrapM, u64_or_nat _ _ (Nat.mod_lt _ (by omega)) (Nat.lt_of_le_of_lt (Nat.div_le_self _ _) g1), shl_word s _ _ (by omega) g1])
    clear hset hdg hlen hnew hneu H1 q1 q2 HV0
    generalize (splice L (o + (j + 1 + 1)) (shlK S (m + 1) (j + 1 + 1))).getD (o + (j + 1)) undef = cv at *
    generalize xs.getD (j + 1) 0 = x at *
    generalize xs.getD j 0 = y at *
    generalize x * 2 ^ s % 18446744073709551616 + y / 2 ^ (64 - s) = z at *
    clear g1
    have ej : (((j + 1 : Nat) : Int) - 1) = (j : Int) := by omega
    go_wp2_with fail
    go_region
    rw [HV.out]
    go_wp2_with fail
    go_roundw
    case rel =>
      have FS : ∃ k' : Nat, k' ≤ m ∧ (Value.int .i64 (j : Int)) = .int .i64 (k' : Int) ∧ Hid (Blk (wr.setCell ⟨b, o + (j + 1), none⟩ (.int .u64 (z : Int))).drew b 79 (splice L (o + (k' + 1)) (shlK S (m + 1) (k' + 1)))) ∧ Hid (Up (some b) w (wr.setCell ⟨b, o + (j + 1), none⟩ (.int .u64 (z : Int))).drew) := ⟨j, by omega, rfl, Lib.hid NEW.out, Lib.hid (NEU.out.drewN 1)⟩
      first | exact FS | ((repeat apply Exists.intro); exact ⟨FS, rfl⟩)
    case measure => simp [intOf]
  · obtain rfl : k = 0 := by omega
    obtain ⟨b2, o2, ea, q1⟩ := HRD.out 0 (by omega)
    injection ea with ea
    injection ea with e1 e2
    subst e1 e2
    obtain ⟨r0, _⟩ := q1 wr hu.out
    have hlow := shl_low xs s (by rw [LX.out]; omega)
    rw [← HSd.out] at hlow
    rw [Nat.pow_zero, Nat.div_one, hlow, Nat.add_zero] at hnew hneu
    rw [Nat.add_zero] at hcell hf
    rw [Nat.add_zero] at r0
    have HV : Hid (IntKind.u64.wrap (((xs.getD 0 0 : Nat) : Int) * 2 ^ s) = ((xs.getD 0 0 * 2 ^ s % 18446744073709551616 : Nat) : Int)) := Lib.hid (by
      have e2 : ((xs.getD 0 0 : Nat) : Int) * 2 ^ s = ((xs.getD 0 0 * 2 ^ s : Nat) : Int) := by push_cast; rfl
      rw [e2, wrapM])
    have NEW := Lib.hid hnew
    have NEU := Lib.hid hneu
    clear hset hlen hnew hneu H1 q1 hlow
    generalize (splice L (o + (0 + 1)) (shlK S (m + 1) (0 + 1))).getD o undef = cv at *
    generalize xs.getD 0 0 = x at *
    generalize x * 2 ^ s % 18446744073709551616 = z at *
    have e0 : ((0 : Nat) : Int) = 0 := rfl
    rw [e0]
    clear e0
    go_wp2_with fail
    rw [HV.out]
    go_ret
    exact ⟨by rw [HV0.out]; rfl, NEW.out, NEU.out⟩
theorem lshVU_any (xs : List Nat) (s : Nat) (L : List Value) (b o n cz B : Nat) (x : Value) (w : World) (hx : Sl w B x (xs.map wv)) (lx : xs.length = n) (hn0 : 0 < n) (hcz : n ≤ cz)
    (hxs : ∀ x ∈ xs, x < 18446744073709551616) (hs0 : 0 < s) (hs : s < 64) (hB : B ≤ b) (hBw : B ≤ w.heap.size) (hk : Blk w b 79 L) (hn : o + n ≤ L.length) (hl : n ≤ 1048576) :
    Calls Tryz.prog 80 #[.slice (some ⟨b, o, none⟩) n cz, x, .int .u64 (s : Int)] w
      (VecPost b (splice L o ((dgs 18446744073709551616 n (nval 18446744073709551616 xs * 2 ^ s)).map wv)) (nval 18446744073709551616 xs * 2 ^ s / 18446744073709551616 ^ n) w) := by
  have C := Lib.hid (lshVUg_any xs s L b o n cz B x w hx lx hn0 hcz hxs hs0 hs hB hBw hk hn hl)
  clear lx hxs hk hx
  generalize splice L o _ = L' at *
  generalize nval 18446744073709551616 xs * 2 ^ s / 18446744073709551616 ^ n = q at *
  go_enter Tryz.func80, Tryz.ntmps80
  go_wp2_with fail
  with_reducible refine C.out.mono ?_
  rintro e w' ⟨rfl, h1, h2⟩
  have H1 := Lib.hid h1
  have H2 := Lib.hid h2
  clear h1 h2
  go_wp2_with fail
  go_ret
  exact ⟨rfl, H1.out, H2.out⟩
end Go.Proofs.YtpcnmgldmnncoaaGreatDoor
