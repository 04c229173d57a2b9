/- addMulVVWW: a row plus another row times a word, in its own place. -/
import Derived.Test.YtpcnmgldmnncoaaGreatDoorMMul
import Derived.Test.YtpcnmgldmnncoaaGreatDoorMVec
import Derived.Test.YtpcnmgldmnncoaaGreatDoorMDb
import Derived.Deep.RegionHeld3
namespace Go.Proofs.YtpcnmgldmnncoaaGreatDoor
open Go.RowKit Dig
set_option linter.unusedVariables false
set_option linter.unusedSimpArgs false
set_option maxRecDepth 100000

/-- the first k words of the one, and of the other times m -/
def amK (xs ys : List Nat) (m k : Nat) : Nat := nval 18446744073709551616 (xs.take k) + nval 18446744073709551616 (ys.take k) * m
theorem amK_succ (xs ys : List Nat) (m k : Nat) (h1 : k < xs.length) (h2 : k < ys.length) : amK xs ys m (k + 1) = amK xs ys m k + 18446744073709551616 ^ k * (xs.getD k 0 + ys.getD k 0 * m) := by
  unfold amK
  rw [nval_take_succ _ xs k h1, nval_take_succ _ ys k h2, Nat.add_mul, Nat.mul_assoc, Nat.mul_add]
  omega
theorem amK_carry {xs ys : List Nat} {m : Nat} (h1 : ∀ x ∈ xs, x < 18446744073709551616) (h2 : ∀ x ∈ ys, x < 18446744073709551616) (hm : m < 18446744073709551616) (k : Nat) : amK xs ys m k / 18446744073709551616 ^ k < 18446744073709551616 := by
  rw [Nat.div_lt_iff_lt_mul (Nat.pow_pos (by omega))]
  have a := take_lt h1 k
  have b := take_lt h2 k
  unfold amK
  obtain ⟨P, hP⟩ : ∃ P, P = 18446744073709551616 ^ k := ⟨_, rfl⟩
  rw [← hP] at a b ⊢
  have h0 : 0 < P := by rw [hP]; exact Nat.pow_pos (by omega)
  generalize nval 18446744073709551616 (xs.take k) = X at *
  generalize nval 18446744073709551616 (ys.take k) = Y at *
  have h3 : Y * m ≤ (P - 1) * 18446744073709551615 := Nat.mul_le_mul (by omega) (by omega)
  obtain ⟨Q, rfl⟩ : ∃ Q, P = Q + 1 := ⟨P - 1, by omega⟩
  rw [Nat.add_sub_cancel] at h3
  omega
set_option maxHeartbeats 1600000 in
theorem addMulVVWWg_any (xs ys : List Nat) (m : Nat) (L : List Value) (b o n cz cx c1 b1 o1 : Nat) (w : World) (lx : xs.length = n) (ly : ys.length = n) (hcx : n ≤ cx) (hc1 : n ≤ c1) (hxs : ∀ x ∈ xs, x < 18446744073709551616) (hys : ∀ x ∈ ys, x < 18446744073709551616) (hm : m < 18446744073709551616)
    (hk : Blk w b 79 L) (hn : o + n ≤ L.length) (hl : n ≤ 1048576) (hrow : ∀ i, i < n → L.getD (o + i) undef = .int .u64 ((xs.getD i 0 : Nat) : Int)) (hne : b1 ≠ b) (hread : ∀ i, i < n → w.cell? ⟨b1, o1 + i, none⟩ = some (.int .u64 ((ys.getD i 0 : Nat) : Int))) :
    Calls Tryz.prog 123 #[.slice (some ⟨b, o, none⟩) n cz, .slice (some ⟨b, o, none⟩) n cx, .slice (some ⟨b1, o1, none⟩) n c1, .int .u64 m, .int .u64 0] w
      (VecPost b (splice L o ((dgs 18446744073709551616 n (nval 18446744073709551616 xs + nval 18446744073709551616 ys * m)).map wv)) ((nval 18446744073709551616 xs + nval 18446744073709551616 ys * m) / 18446744073709551616 ^ n) w) := by
  have hfin : amK xs ys m n = nval 18446744073709551616 xs + nval 18446744073709551616 ys * m := by
    unfold amK; rw [List.take_of_length_le (by omega), List.take_of_length_le (by omega)]
  rw [← hfin]
  have H1 := Lib.hid hxs
  have H2 := Lib.hid hys
  have LX := Lib.hid lx
  have LY := Lib.hid ly
  have HK := Lib.hid hk
  have HRD := Lib.hid hread
  have HROW := Lib.hid hrow
  clear hxs hys lx ly hk hfin hread hrow
  go_enter Tryz.func123, Tryz.ntmps123
  go_wp2_with fail
  go_loopw [10, 32] (fun c i wr => ∃ k : Nat, k ≤ n ∧ i = .int .i64 k ∧ c = .int .u64 ((amK xs ys m k / 18446744073709551616 ^ k : Nat) : Int) ∧ Hid (Blk wr b 79 (splice L o ((dgs 18446744073709551616 k (amK xs ys m k)).map wv))) ∧ Hid (Up (some b) w wr)) (fun _ i _ => n - (intOf i).toNat)
  case atStart => exact ⟨0, Nat.zero_le _, rfl, by simp [amK, nval], Lib.hid (by simpa [dgs, splice_nil] using HK.out), Lib.hid (Up.refl _ _)⟩
  case round =>
    obtain ⟨k, hkn, rfl, rfl, hb, hu⟩ := hrel
    by_cases hlt : k < n
    · have hq1 := HRD.out k hlt
      have lb0 := lt_of_cell hq1
      have q1 : wr.cell? ⟨b1, o1 + k, none⟩ = some (.int .u64 ((ys.getD k 0 : Nat) : Int)) := (World.cell?_of_block (a := ⟨b1, o1 + k, none⟩) (hu.out.block b1 lb0 (by intro e; injection e with e; exact hne e))).trans hq1
      have lb1 := lt_of_cell q1
      have hlen : (splice L o ((dgs 18446744073709551616 k (amK xs ys m k)).map wv)).length = L.length := length_splice _ _ _ (by simp [dgs_length]; omega)
      have hcell := hb.out.cell (o + k) (by rw [hlen]; omega)
      rw [splice_beyond _ _ o k (by rw [List.length_map, dgs_length]; exact Nat.le_refl _) (by rw [List.length_map, dgs_length]; omega), HROW.out k hlt] at hcell
      have hf := hb.out.free (o + k)
      have lbb := hb.out.lt
      have hcar := amK_carry H1.out H2.out hm k
      have hst := dgs_step 18446744073709551616 k (amK xs ys m k) (xs.getD k 0 + ys.getD k 0 * m) (by omega)
      rw [← amK_succ xs ys m k (by rw [LX.out]; exact hlt) (by rw [LY.out]; exact hlt)] at hst
      have hset := splice_set L o k ((dgs 18446744073709551616 k (amK xs ys m k)).map wv) (wv ((amK xs ys m k / 18446744073709551616 ^ k + (xs.getD k 0 + ys.getD k 0 * m)) % 18446744073709551616)) (by simp [dgs_length]) (by omega)
      have e3 : (dgs 18446744073709551616 k (amK xs ys m k)).map wv ++ [wv ((amK xs ys m k / 18446744073709551616 ^ k + (xs.getD k 0 + ys.getD k 0 * m)) % 18446744073709551616)] = (dgs 18446744073709551616 (k + 1) (amK xs ys m (k + 1))).map wv := by rw [hst.1]; simp
      rw [e3] at hset
      have g1 := getD_lt H1.out k (by rw [LX.out]; exact hlt)
      have g2 := getD_lt H2.out k (by rw [LY.out]; exact hlt)
      have hcar2 := amK_carry H1.out H2.out hm (k + 1)
      obtain ⟨S, hS⟩ : ∃ S, S = xs.getD k 0 + ys.getD k 0 * m := ⟨_, rfl⟩
      have QQ : Hid (∀ q, Calls Tryz.prog 125 #[.int .u64 (ys.getD k 0 : Nat), .int .u64 (m : Nat), .int .u64 (xs.getD k 0 : Nat)] (wr.drewN q) fun e w'' => e = .returned (.tuple #[.int .u64 ((S / 18446744073709551616 : Nat) : Int), .int .u64 ((S % 18446744073709551616 : Nat) : Int)]) ∧ ∃ mq, w'' = wr.drewN mq) := Lib.hid (fun q => by
        refine (mulAddWWW_any (ys.getD k 0) m (xs.getD k 0) g2 hm g1 (wr.drewN q)).mono ?_
        rintro e w'' ⟨rfl, rfl⟩
        rw [Nat.add_comm (ys.getD k 0 * m), ← hS]
        exact ⟨rfl, q, rfl⟩)
      rw [← hS] at hset hst
      have HSET := Lib.hid hset
      have hstc := hst.2
      clear hst e3 hset hlen hq1
      generalize amK xs ys m k / 18446744073709551616 ^ k = c at *
      obtain ⟨cn, hcn⟩ : ∃ cn, cn = amK xs ys m (k + 1) / 18446744073709551616 ^ (k + 1) := ⟨_, rfl⟩
      rw [← hcn] at hstc hcar2
      obtain ⟨hi, hhi⟩ : ∃ hi, hi = S / 18446744073709551616 := ⟨_, rfl⟩
      obtain ⟨lo, hlo⟩ : ∃ lo, lo = S % 18446744073709551616 := ⟨_, rfl⟩
      obtain ⟨d, hd⟩ : ∃ d, d = (c + S) % 18446744073709551616 := ⟨_, rfl⟩
      obtain ⟨cc, hcc⟩ : ∃ cc, cc = (lo + c) / 18446744073709551616 := ⟨_, rfl⟩
      rw [← hd] at HSET
      rw [← hhi, ← hlo] at QQ
      have AA : Hid (∀ W, Calls Tryz.prog 86 #[.int .u64 (lo : Nat), .int .u64 (c : Nat), .int .u64 0] W (TwoPost d cc W)) := Lib.hid (fun W => by
        have h := bitsAdd_any lo c 0 W (by omega)
        rw [show (lo + c + 0) % 18446744073709551616 = d by omega, show (lo + c + 0) / 18446744073709551616 = cc by omega] at h
        exact h)
      have wcn : IntKind.u64.wrap ((cc : Int) + (hi : Int)) = (cn : Int) := by rw [IntKind.wrap_u64]; omega
      have HCN := Lib.hid hcn
      clear hcn hstc hhi hlo hd hcc hS hcar2 hcar g1 g2
      generalize xs.getD k 0 = u at *
      generalize ys.getD k 0 = v at *
      have hi1 : (0 : Int) ≤ (k : Int) := by omega
      have hi2 : (k : Int) < (n : Int) := by omega
      go_wp2_with fail
      go_quiet ((go_at_call 125; (with_reducible exact QQ.out _)))
      go_wp2_with fail
      refine (AA.out _).mono ?_
      rintro e w5 ⟨rfl, rfl⟩
      clear QQ AA
      go_wp2_with fail
      refine ⟨⟨k + 1, by omega, by go_num, by rw [HCN.out], Lib.hid ?_, Lib.hid ((hu.out.drewN _).set _ _)⟩, by simp [intOf]; omega⟩
      have SETF : ∀ W : World, Blk W b 79 (splice L o ((dgs 18446744073709551616 k (amK xs ys m k)).map wv)) → Blk (W.setCell ⟨b, o + k, none⟩ (wv d)) b 79 (splice L o ((dgs 18446744073709551616 (k + 1) (amK xs ys m (k + 1))).map wv)) := fun W hW => by
        have h := hW.set (o + k) (wv d)
        rw [HSET.out] at h
        exact h
      exact SETF _ (hb.out.drewN _)
    · obtain rfl : k = n := by omega
      go_wp2_with fail
      go_ret
      exact ⟨rfl, hb.out, hu.out⟩
theorem addMulVVWW_any (xs ys : List Nat) (m : Nat) (L : List Value) (b o n cz cx c1 b1 o1 : Nat) (w : World) (lx : xs.length = n) (ly : ys.length = n) (hcx : n ≤ cx) (hc1 : n ≤ c1) (hxs : ∀ x ∈ xs, x < 18446744073709551616) (hys : ∀ x ∈ ys, x < 18446744073709551616) (hm : m < 18446744073709551616)
    (hk : Blk w b 79 L) (hn : o + n ≤ L.length) (hl : n ≤ 1048576) (hrow : ∀ i, i < n → L.getD (o + i) undef = .int .u64 ((xs.getD i 0 : Nat) : Int)) (hne : b1 ≠ b) (hread : ∀ i, i < n → w.cell? ⟨b1, o1 + i, none⟩ = some (.int .u64 ((ys.getD i 0 : Nat) : Int))) :
    Calls Tryz.prog 115 #[.slice (some ⟨b, o, none⟩) n cz, .slice (some ⟨b, o, none⟩) n cx, .slice (some ⟨b1, o1, none⟩) n c1, .int .u64 m, .int .u64 0] w
      (VecPost b (splice L o ((dgs 18446744073709551616 n (nval 18446744073709551616 xs + nval 18446744073709551616 ys * m)).map wv)) ((nval 18446744073709551616 xs + nval 18446744073709551616 ys * m) / 18446744073709551616 ^ n) w) := by
  have C := Lib.hid (addMulVVWWg_any xs ys m L b o n cz cx c1 b1 o1 w lx ly hcx hc1 hxs hys hm hk hn hl hrow hne hread)
  clear lx ly hxs hys hk hread hrow
  generalize splice L o _ = L' at *
  generalize (nval 18446744073709551616 xs + nval 18446744073709551616 ys * m) / 18446744073709551616 ^ n = q at *
  go_enter Tryz.func115, Tryz.ntmps115
  go_wp2_with fail
  refine C.out.mono ?_
  rintro e w' ⟨rfl, h1, h2⟩
  have H1 := Lib.hid h1
  have H2 := Lib.hid h2
  clear h1 h2
  go_wp2_with fail
  go_ret
  exact ⟨rfl, H1.out, H2.out⟩
end Go.Proofs.YtpcnmgldmnncoaaGreatDoor
