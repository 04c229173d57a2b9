/- addVV, subVV whose rows are read cell by cell: they may lie in the block that is written. Printed by genvecgen.py out of XVec1. -/
import Derived.Test.YtpcnmgldmnncoaaGreatDoorMVec
namespace Go.Proofs.YtpcnmgldmnncoaaGreatDoor
open Go.RowKit Dig
set_option linter.unusedVariables false
set_option linter.unusedSimpArgs false
set_option maxRecDepth 100000

set_option maxHeartbeats 1600000 in
theorem addVVg_gen (xs ys : List Nat) (L : List Value) (b o n cz c1 c2 : Nat) (a1 a2 : Option Addr) (w : World) (hc1 : n ≤ c1) (hc2 : n ≤ c2) (lx : xs.length = n) (ly : ys.length = n)
    (hxs : ∀ x ∈ xs, x < 18446744073709551616) (hys : ∀ x ∈ ys, x < 18446744073709551616) (hk : Blk w b 79 L) (hn : o + n ≤ L.length) (hl : n ≤ 1048576)
    (hread : ∀ wr k, k < n → Blk wr b 79 (splice L o ((dgs 18446744073709551616 k (sumK xs ys k)).map wv)) → Up (some b) w wr → (∃ b1 o1, a1 = some ⟨b1, o1, none⟩ ∧ wr.cell? ⟨b1, o1 + k, none⟩ = some (.int .u64 ((xs.getD k 0 : Nat) : Int))) ∧ (∃ b2 o2, a2 = some ⟨b2, o2, none⟩ ∧ wr.cell? ⟨b2, o2 + k, none⟩ = some (.int .u64 ((ys.getD k 0 : Nat) : Int)))) :
    Calls Tryz.prog 85 #[.slice (some ⟨b, o, none⟩) n cz, .slice a1 n c1, .slice a2 n c2] w
      (VecPost b (splice L o ((dgs 18446744073709551616 n (nval 18446744073709551616 xs + nval 18446744073709551616 ys)).map wv)) ((nval 18446744073709551616 xs + nval 18446744073709551616 ys) / 18446744073709551616 ^ n) w) := by
  have hfin : sumK xs ys n = nval 18446744073709551616 xs + nval 18446744073709551616 ys := by
    unfold sumK; rw [List.take_of_length_le (by omega), List.take_of_length_le (by omega)]
  rw [← hfin]
  have HRD := Lib.hid hread
  have H1 := Lib.hid hxs
  have H2 := Lib.hid hys
  have LX := Lib.hid lx
  have LY := Lib.hid ly
  have HK := Lib.hid hk
  clear hread hxs hys lx ly hk hfin
  go_enter Tryz.func85, Tryz.ntmps85
  go_wp2_with fail
  go_loopw [6, 25] (fun c i wr => ∃ k : Nat, k ≤ n ∧ i = .int .i64 k ∧ c = .int .u64 ((sumK xs ys k / 18446744073709551616 ^ k : Nat) : Int) ∧ Hid (Blk wr b 79 (splice L o ((dgs 18446744073709551616 k (sumK xs ys k)).map wv))) ∧ Hid (Up (some b) w wr)) (fun _ i _ => n - (intOf i).toNat)
  case atStart => exact ⟨0, Nat.zero_le _, rfl, by simp [sumK, nval], Lib.hid (by simpa [dgs, splice_nil] using HK.out), Lib.hid (Up.refl _ _)⟩
  case round =>
    obtain ⟨k, hkn, rfl, rfl, hb, hu⟩ := hrel
    by_cases hlt : k < n
    · obtain ⟨⟨b1, o1, rfl, q1⟩, b2, o2, rfl, q2⟩ := HRD.out wr k hlt hb.out hu.out
      have lb1 := lt_of_cell q1
      have lb2 := lt_of_cell q2
      have hlen : (splice L o ((dgs 18446744073709551616 k (sumK xs ys k)).map wv)).length = L.length := length_splice _ _ _ (by simp [dgs_length]; omega)
      have hcell := hb.out.cell (o + k) (by rw [hlen]; omega)
      have hf := hb.out.free (o + k)
      have hcar := sumK_carry H1.out H2.out k
      have hst := dgs_step 18446744073709551616 k (sumK xs ys k) (xs.getD k 0 + ys.getD k 0) (by omega)
      rw [← sumK_succ xs ys k (by rw [LX.out]; exact hlt) (by rw [LY.out]; exact hlt)] at hst
      have hset := splice_set L o k ((dgs 18446744073709551616 k (sumK xs ys k)).map wv) (wv ((sumK xs ys k / 18446744073709551616 ^ k + (xs.getD k 0 + ys.getD k 0)) % 18446744073709551616)) (by simp [dgs_length]) (by omega)
      have e3 : (dgs 18446744073709551616 k (sumK xs ys k)).map wv ++ [wv ((sumK xs ys k / 18446744073709551616 ^ k + (xs.getD k 0 + ys.getD k 0)) % 18446744073709551616)] = (dgs 18446744073709551616 (k + 1) (sumK xs ys (k + 1))).map wv := by rw [hst.1]; simp
      rw [e3] at hset
      have Q : ∀ m, Calls Tryz.prog 86 #[.int .u64 (xs.getD k 0 : Nat), .int .u64 (ys.getD k 0 : Nat), .int .u64 ((sumK xs ys k / 18446744073709551616 ^ k : Nat) : Int)] (wr.drewN m) fun e w'' => e = .returned (.tuple #[.int .u64 (((sumK xs ys k / 18446744073709551616 ^ k + (xs.getD k 0 + ys.getD k 0)) % 18446744073709551616 : Nat) : Int), .int .u64 ((sumK xs ys (k + 1) / 18446744073709551616 ^ (k + 1) : Nat) : Int)]) ∧ ∃ m', w'' = wr.drewN m' := by
        intro m
        refine (bitsAdd_any _ _ _ _ hcar).mono ?_
        rintro e w' ⟨rfl, rfl⟩
        refine ⟨?_, m, rfl⟩
        rw [hst.2, Nat.add_comm (sumK xs ys k / 18446744073709551616 ^ k)]
      have QQ := Lib.hid Q
      have HSET := Lib.hid hset
      have g1 := getD_lt H1.out k (by rw [LX.out]; exact hlt)
      have g2 := getD_lt H2.out k (by rw [LY.out]; exact hlt)
      have hb3 : (sumK xs ys k / 18446744073709551616 ^ k + (xs.getD k 0 + ys.getD k 0)) % 18446744073709551616 < 18446744073709551616 := Nat.mod_lt _ (by omega)
      clear hst e3 hset Q hlen
      generalize (sumK xs ys k / 18446744073709551616 ^ k + (xs.getD k 0 + ys.getD k 0)) % 18446744073709551616 = d at *
      generalize sumK xs ys k / 18446744073709551616 ^ k = c at *
      generalize hc' : sumK xs ys (k + 1) / 18446744073709551616 ^ (k + 1) = c' at *
      have HC' := Lib.hid hc'
      clear hc'
      generalize (splice L o ((dgs 18446744073709551616 k (sumK xs ys k)).map wv)).getD (o + k) undef = cv at *
      generalize xs.getD k 0 = u at *
      generalize ys.getD k 0 = v at *
      have hi1 : (0 : Int) ≤ (k : Int) := by omega
      have hi2 : (k : Int) < (n : Int) := by omega
      go_wp2_with fail
      go_quiet ((go_at_call 86; exact QQ.out _))
      go_wp2_with fail
      go_roundw
      case rel =>
        refine ⟨k + 1, by omega, by go_num, by rw [HC'.out], Lib.hid ?_, Lib.hid ((hu.out.drewN _).set _ _)⟩
        have := (hb.out.drewN nq).set (o + k) (wv d)
        rw [HSET.out] at this
        exact this
      case measure => simp [intOf]; omega
    · obtain rfl : k = n := by omega
      go_wp2_with fail
      go_ret
      exact ⟨rfl, hb.out, hu.out⟩
set_option maxHeartbeats 1600000 in
theorem subVVg_gen (xs ys : List Nat) (L : List Value) (b o n cz c1 c2 : Nat) (a1 a2 : Option Addr) (w : World) (hc1 : n ≤ c1) (hc2 : n ≤ c2) (lx : xs.length = n) (ly : ys.length = n)
    (hxs : ∀ x ∈ xs, x < 18446744073709551616) (hys : ∀ x ∈ ys, x < 18446744073709551616) (hk : Blk w b 79 L) (hn : o + n ≤ L.length) (hl : n ≤ 1048576)
    (hread : ∀ wr k, k < n → Blk wr b 79 (splice L o ((dgs 18446744073709551616 k (difK xs ys k)).map wv)) → Up (some b) w wr → (∃ b1 o1, a1 = some ⟨b1, o1, none⟩ ∧ wr.cell? ⟨b1, o1 + k, none⟩ = some (.int .u64 ((xs.getD k 0 : Nat) : Int))) ∧ (∃ b2 o2, a2 = some ⟨b2, o2, none⟩ ∧ wr.cell? ⟨b2, o2 + k, none⟩ = some (.int .u64 ((ys.getD k 0 : Nat) : Int)))) :
    Calls Tryz.prog 87 #[.slice (some ⟨b, o, none⟩) n cz, .slice a1 n c1, .slice a2 n c2] w
      (VecPost b (splice L o ((dgs 18446744073709551616 n (nval 18446744073709551616 xs + 18446744073709551616 ^ n - nval 18446744073709551616 ys)).map wv)) (if nval 18446744073709551616 xs < nval 18446744073709551616 ys then 1 else 0) w) := by
  have hfin : difK xs ys n = nval 18446744073709551616 xs + 18446744073709551616 ^ n - nval 18446744073709551616 ys := by
    unfold difK; rw [List.take_of_length_le (by omega), List.take_of_length_le (by omega)]
  have hfin2 : borK xs ys n = if nval 18446744073709551616 xs < nval 18446744073709551616 ys then 1 else 0 := by
    unfold borK; rw [List.take_of_length_le (by omega), List.take_of_length_le (by omega)]
  rw [← hfin, ← hfin2]
  have HRD := Lib.hid hread
  have H1 := Lib.hid hxs
  have H2 := Lib.hid hys
  have LX := Lib.hid lx
  have LY := Lib.hid ly
  have HK := Lib.hid hk
  clear hread hxs hys lx ly hk hfin hfin2
  go_enter Tryz.func87, Tryz.ntmps87
  go_wp2_with fail
  go_loopw [6, 25] (fun c i wr => ∃ k : Nat, k ≤ n ∧ i = .int .i64 k ∧ c = .int .u64 ((borK xs ys k : Nat) : Int) ∧ Hid (Blk wr b 79 (splice L o ((dgs 18446744073709551616 k (difK xs ys k)).map wv))) ∧ Hid (Up (some b) w wr)) (fun _ i _ => n - (intOf i).toNat)
  case atStart => exact ⟨0, Nat.zero_le _, rfl, by simp [borK, nval], Lib.hid (by simpa [dgs, splice_nil] using HK.out), Lib.hid (Up.refl _ _)⟩
  case round =>
    obtain ⟨k, hkn, rfl, rfl, hb, hu⟩ := hrel
    by_cases hlt : k < n
    · obtain ⟨⟨b1, o1, rfl, q1⟩, b2, o2, rfl, q2⟩ := HRD.out wr k hlt hb.out hu.out
      have lb1 := lt_of_cell q1
      have lb2 := lt_of_cell q2
      have hlen : (splice L o ((dgs 18446744073709551616 k (difK xs ys k)).map wv)).length = L.length := length_splice _ _ _ (by simp [dgs_length]; omega)
      have hcell := hb.out.cell (o + k) (by rw [hlen]; omega)
      have hf := hb.out.free (o + k)
      have hcar := borK_le xs ys k
      have hst := difK_succ H1.out H2.out k (by rw [LX.out]; exact hlt) (by rw [LY.out]; exact hlt)
      have hset := splice_set L o k ((dgs 18446744073709551616 k (difK xs ys k)).map wv) (wv ((xs.getD k 0 + 18446744073709551616 - ys.getD k 0 - borK xs ys k) % 18446744073709551616)) (by simp [dgs_length]) (by omega)
      have e3 : (dgs 18446744073709551616 k (difK xs ys k)).map wv ++ [wv ((xs.getD k 0 + 18446744073709551616 - ys.getD k 0 - borK xs ys k) % 18446744073709551616)] = (dgs 18446744073709551616 (k + 1) (difK xs ys (k + 1))).map wv := by rw [hst.1]; simp
      rw [e3] at hset
      have Q : ∀ m, Calls Tryz.prog 88 #[.int .u64 (xs.getD k 0 : Nat), .int .u64 (ys.getD k 0 : Nat), .int .u64 ((borK xs ys k : Nat) : Int)] (wr.drewN m) fun e w'' => e = .returned (.tuple #[.int .u64 (((xs.getD k 0 + 18446744073709551616 - ys.getD k 0 - borK xs ys k) % 18446744073709551616 : Nat) : Int), .int .u64 ((borK xs ys (k + 1) : Nat) : Int)]) ∧ ∃ m', w'' = wr.drewN m' := by
        intro m
        refine (bitsSub_any _ _ _ _ hcar).mono ?_
        rintro e w' ⟨rfl, rfl⟩
        refine ⟨?_, m, rfl⟩
        rw [hst.2]
      have QQ := Lib.hid Q
      have HSET := Lib.hid hset
      have g1 := getD_lt H1.out k (by rw [LX.out]; exact hlt)
      have g2 := getD_lt H2.out k (by rw [LY.out]; exact hlt)
      have hb3 : (xs.getD k 0 + 18446744073709551616 - ys.getD k 0 - borK xs ys k) % 18446744073709551616 < 18446744073709551616 := Nat.mod_lt _ (by omega)
      clear hst e3 hset Q hlen
      generalize (xs.getD k 0 + 18446744073709551616 - ys.getD k 0 - borK xs ys k) % 18446744073709551616 = d at *
      generalize borK xs ys k = c at *
      generalize hc' : borK xs ys (k + 1) = c' at *
      have HC' := Lib.hid hc'
      clear hc'
      generalize (splice L o ((dgs 18446744073709551616 k (difK xs ys k)).map wv)).getD (o + k) undef = cv at *
      generalize xs.getD k 0 = u at *
      generalize ys.getD k 0 = v at *
      have hi1 : (0 : Int) ≤ (k : Int) := by omega
      have hi2 : (k : Int) < (n : Int) := by omega
      go_wp2_with fail
      go_quiet ((go_at_call 88; exact QQ.out _))
      go_wp2_with fail
      go_roundw
      case rel =>
        refine ⟨k + 1, by omega, by go_num, by rw [HC'.out], Lib.hid ?_, Lib.hid ((hu.out.drewN _).set _ _)⟩
        have := (hb.out.drewN nq).set (o + k) (wv d)
        rw [HSET.out] at this
        exact this
      case measure => simp [intOf]; omega
    · obtain rfl : k = n := by omega
      go_wp2_with fail
      go_ret
      exact ⟨rfl, hb.out, hu.out⟩
theorem addVV_gen (xs ys : List Nat) (L : List Value) (b o n cz c1 c2 : Nat) (a1 a2 : Option Addr) (w : World) (hc1 : n ≤ c1) (hc2 : n ≤ c2) (lx : xs.length = n) (ly : ys.length = n)
    (hxs : ∀ x ∈ xs, x < 18446744073709551616) (hys : ∀ x ∈ ys, x < 18446744073709551616) (hk : Blk w b 79 L) (hn : o + n ≤ L.length) (hl : n ≤ 1048576)
    (hread : ∀ wr k, k < n → Blk wr b 79 (splice L o ((dgs 18446744073709551616 k (sumK xs ys k)).map wv)) → Up (some b) w wr → (∃ b1 o1, a1 = some ⟨b1, o1, none⟩ ∧ wr.cell? ⟨b1, o1 + k, none⟩ = some (.int .u64 ((xs.getD k 0 : Nat) : Int))) ∧ (∃ b2 o2, a2 = some ⟨b2, o2, none⟩ ∧ wr.cell? ⟨b2, o2 + k, none⟩ = some (.int .u64 ((ys.getD k 0 : Nat) : Int)))) :
    Calls Tryz.prog 65 #[.slice (some ⟨b, o, none⟩) n cz, .slice a1 n c1, .slice a2 n c2] w
      (VecPost b (splice L o ((dgs 18446744073709551616 n (nval 18446744073709551616 xs + nval 18446744073709551616 ys)).map wv)) ((nval 18446744073709551616 xs + nval 18446744073709551616 ys) / 18446744073709551616 ^ n) w) := by
  have C := Lib.hid (addVVg_gen xs ys L b o n cz c1 c2 a1 a2 w hc1 hc2 lx ly hxs hys hk hn hl hread)
  clear hread lx ly hxs hys hk
  generalize splice L o _ = L' at *
  generalize (nval 18446744073709551616 xs + nval 18446744073709551616 ys) / 18446744073709551616 ^ n = q at *
  go_enter Tryz.func65, Tryz.ntmps65
  go_wp2_with fail
  refine C.out.mono ?_
  rintro e w' ⟨rfl, h1, h2⟩
  have H1 := Lib.hid h1
  have H2 := Lib.hid h2
  clear h1 h2
  go_wp2_with fail
  go_ret
  exact ⟨rfl, H1.out, H2.out⟩
theorem subVV_gen (xs ys : List Nat) (L : List Value) (b o n cz c1 c2 : Nat) (a1 a2 : Option Addr) (w : World) (hc1 : n ≤ c1) (hc2 : n ≤ c2) (lx : xs.length = n) (ly : ys.length = n)
    (hxs : ∀ x ∈ xs, x < 18446744073709551616) (hys : ∀ x ∈ ys, x < 18446744073709551616) (hk : Blk w b 79 L) (hn : o + n ≤ L.length) (hl : n ≤ 1048576)
    (hread : ∀ wr k, k < n → Blk wr b 79 (splice L o ((dgs 18446744073709551616 k (difK xs ys k)).map wv)) → Up (some b) w wr → (∃ b1 o1, a1 = some ⟨b1, o1, none⟩ ∧ wr.cell? ⟨b1, o1 + k, none⟩ = some (.int .u64 ((xs.getD k 0 : Nat) : Int))) ∧ (∃ b2 o2, a2 = some ⟨b2, o2, none⟩ ∧ wr.cell? ⟨b2, o2 + k, none⟩ = some (.int .u64 ((ys.getD k 0 : Nat) : Int)))) :
    Calls Tryz.prog 67 #[.slice (some ⟨b, o, none⟩) n cz, .slice a1 n c1, .slice a2 n c2] w
      (VecPost b (splice L o ((dgs 18446744073709551616 n (nval 18446744073709551616 xs + 18446744073709551616 ^ n - nval 18446744073709551616 ys)).map wv)) (if nval 18446744073709551616 xs < nval 18446744073709551616 ys then 1 else 0) w) := by
  have C := Lib.hid (subVVg_gen xs ys L b o n cz c1 c2 a1 a2 w hc1 hc2 lx ly hxs hys hk hn hl hread)
  clear hread lx ly hxs hys hk
  generalize splice L o _ = L' at *
  generalize (if nval 18446744073709551616 xs < nval 18446744073709551616 ys then 1 else 0) = q at *
  go_enter Tryz.func67, Tryz.ntmps67
  go_wp2_with fail
  refine C.out.mono ?_
  rintro e w' ⟨rfl, h1, h2⟩
  have H1 := Lib.hid h1
  have H2 := Lib.hid h2
  clear h1 h2
  go_wp2_with fail
  go_ret
  exact ⟨rfl, H1.out, H2.out⟩
end Go.Proofs.YtpcnmgldmnncoaaGreatDoor
