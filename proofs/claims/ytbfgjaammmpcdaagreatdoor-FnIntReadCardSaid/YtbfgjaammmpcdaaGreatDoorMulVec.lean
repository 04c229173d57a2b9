/- math/bits.Mul; mulAddWWW, mulAddVWW: a row of words times a word, and a word; the row that is read may be the row that is written. -/
import Derived.Test.YtbfgjaammmpcdaaGreatDoorVec1
import Derived.Test.YtbfgjaammmpcdaaGreatDoorMulShelf
import Derived.Deep.RegionLaw
namespace Go.Proofs.YtbfgjaammmpcdaaGreatDoor
open Go.RowKit Dig
set_option linter.unusedVariables false
set_option linter.unusedSimpArgs false
set_option maxRecDepth 100000

theorem bitsMul_any (x y : Nat) (hx : x < 18446744073709551616) (hy : y < 18446744073709551616) (w : World) :
    Calls Tryz.prog 130 #[.int .u64 x, .int .u64 y] w (TwoPost (x * y / 18446744073709551616) (x * y % 18446744073709551616) w) :=
  (Any.bits_Mul lays212 x y hx hy w).mono (by rintro e w' ⟨rfl, rfl⟩; exact ⟨rfl, rfl⟩)
theorem mulAdd_parts (B h l c : Nat) (hl : l < B) (hc : c < B) : (B * h + l + c) / B = h + (l + c) / B ∧ (B * h + l + c) % B = (l + c) % B := by
  have hB : 0 < B := by omega
  rw [Nat.add_assoc]
  exact ⟨Nat.mul_add_div hB _ _, Nat.mul_add_mod _ _ _⟩
theorem mulAdd_lt (B x y c : Nat) (hx : x < B) (hy : y < B) (hc : c < B) : (x * y + c) / B < B := by
  have hB : 0 < B := by omega
  rw [Nat.div_lt_iff_lt_mul hB]
  have h1 : x * y ≤ (B - 1) * (B - 1) := Nat.mul_le_mul (by omega) (by omega)
  have h2 : (B - 1) * (B - 1) + (B - 1) + (B - 1) + 1 = B * B := by
    obtain ⟨k, rfl⟩ : ∃ k, B = k + 1 := ⟨B - 1, by omega⟩
    simp only [Nat.add_sub_cancel]
    grind
  omega
theorem mulAddWWW_any (x y c : Nat) (hx : x < 18446744073709551616) (hy : y < 18446744073709551616) (hc : c < 18446744073709551616) (w : World) :
    Calls Tryz.prog 146 #[.int .u64 x, .int .u64 y, .int .u64 c] w (TwoPost ((x * y + c) / 18446744073709551616) ((x * y + c) % 18446744073709551616) w) := by
  have hl : x * y % 18446744073709551616 < 18446744073709551616 := Nat.mod_lt _ (by omega)
  have hp := mulAdd_parts 18446744073709551616 (x * y / 18446744073709551616) (x * y % 18446744073709551616) c hl hc
  rw [Nat.div_add_mod] at hp
  have hlt := mulAdd_lt 18446744073709551616 x y c hx hy hc
  have C1 := Lib.hid (fun W => bitsMul_any x y hx hy W)
  have C2 := Lib.hid (fun W => bitsAdd_any (x * y % 18446744073709551616) c 0 W (by omega))
  simp only [Nat.add_zero] at C2
  rw [hp.1] at hlt
  rw [hp.1, hp.2]
  generalize (x * y % 18446744073709551616 + c) / 18446744073709551616 = q at *
  generalize (x * y % 18446744073709551616 + c) % 18446744073709551616 = r at *
  generalize x * y / 18446744073709551616 = h at *
  generalize x * y % 18446744073709551616 = l at *
  have hs : IntKind.u64.wrap ((h : Int) + (q : Int)) = ((h + q : Nat) : Int) := by rw [IntKind.wrap_u64]; omega
  clear hp hl
  go_enter Tryz.func146, Tryz.ntmps146
  go_wp2_with fail
  refine (C1.out _).mono ?_
  rintro e w1 ⟨rfl, rfl⟩
  go_wp2_with fail
  refine (C2.out _).mono ?_
  rintro e w1 ⟨rfl, rfl⟩
  clear C1 C2
  go_wp2_with fail
  go_ret2
  exact ⟨rfl, rfl⟩

/-- the first k words times y, and r -/
def mulK (xs : List Nat) (y r k : Nat) : Nat := nval 18446744073709551616 (xs.take k) * y + r
theorem mulK_succ (xs : List Nat) (y r k : Nat) (h1 : k < xs.length) : mulK xs y r (k + 1) = mulK xs y r k + 18446744073709551616 ^ k * (xs.getD k 0 * y) := by
  unfold mulK
  rw [nval_take_succ _ xs k h1, Nat.add_mul, Nat.mul_assoc]
  omega
theorem mulK_carry {xs : List Nat} {y r : Nat} (h1 : ∀ x ∈ xs, x < 18446744073709551616) (hy : y < 18446744073709551616) (hr : r < 18446744073709551616) (k : Nat) : mulK xs y r k / 18446744073709551616 ^ k < 18446744073709551616 := by
  rw [Nat.div_lt_iff_lt_mul (Nat.pow_pos (by omega))]
  have a := take_lt h1 k
  unfold mulK
  obtain ⟨P, hP⟩ : ∃ P, P = 18446744073709551616 ^ k := ⟨_, rfl⟩
  rw [← hP] at a ⊢
  have h0 : 0 < P := by rw [hP]; exact Nat.pow_pos (by omega)
  generalize nval 18446744073709551616 (xs.take k) = X at *
  have h2 : X * y ≤ (P - 1) * 18446744073709551615 := Nat.mul_le_mul (by omega) (by omega)
  obtain ⟨Q, rfl⟩ : ∃ Q, P = Q + 1 := ⟨P - 1, by omega⟩
  rw [Nat.add_sub_cancel] at h2
  omega
set_option maxHeartbeats 1600000 in
/-- x may lie in the row that is written: it is read before its place is -/
theorem mulAddVWWg_any (xs : List Nat) (y r : Nat) (L : List Value) (b o n cz c1 : Nat) (a1 : Option Addr) (w : World) (lx : xs.length = n) (hc1 : n ≤ c1) (hxs : ∀ x ∈ xs, x < 18446744073709551616) (hy : y < 18446744073709551616) (hr : r < 18446744073709551616)
    (hk : Blk w b 102 L) (hn : o + n ≤ L.length) (hl : n ≤ 1048576) (hread : n ≠ 0 → ∃ b1 o1, a1 = some ⟨b1, o1, none⟩ ∧ ∀ wr k, k < n → Blk wr b 102 (splice L o ((dgs 18446744073709551616 k (mulK xs y r k)).map wv)) → Up (some b) w wr → wr.cell? ⟨b1, o1 + k, none⟩ = some (.int .u64 ((xs.getD k 0 : Nat) : Int)) ∧ b1 < wr.heap.size) :
    Calls Tryz.prog 140 #[.slice (some ⟨b, o, none⟩) n cz, .slice a1 n c1, .int .u64 y, .int .u64 r] w
      (VecPost b (splice L o ((dgs 18446744073709551616 n (nval 18446744073709551616 xs * y + r)).map wv)) ((nval 18446744073709551616 xs * y + r) / 18446744073709551616 ^ n) w) := by
  have hfin : mulK xs y r n = nval 18446744073709551616 xs * y + r := by
    unfold mulK; rw [List.take_of_length_le (by omega)]
  rw [← hfin]
  have H1 := Lib.hid hxs
  have LX := Lib.hid lx
  have HK := Lib.hid hk
  have HRD := Lib.hid hread
  clear hxs lx hk hfin hread
  go_enter Tryz.func140, Tryz.ntmps140
  go_wp2_with fail
  go_loopw [8, 19] (fun c i wr => ∃ k : Nat, k ≤ n ∧ i = .int .i64 k ∧ c = .int .u64 ((mulK xs y r k / 18446744073709551616 ^ k : Nat) : Int) ∧ Hid (Blk wr b 102 (splice L o ((dgs 18446744073709551616 k (mulK xs y r k)).map wv))) ∧ Hid (Up (some b) w wr)) (fun _ i _ => n - (intOf i).toNat)
  case atStart => exact ⟨0, Nat.zero_le _, rfl, by simp [mulK, nval], Lib.hid (by simpa [dgs, splice_nil] using HK.out), Lib.hid (Up.refl _ _)⟩
  case round =>
    obtain ⟨k, hkn, rfl, rfl, hb, hu⟩ := hrel
    by_cases hlt : k < n
    · obtain ⟨b1, o1, rfl, hrd⟩ := HRD.out (by omega)
      obtain ⟨q1, lb1⟩ := hrd wr k hlt hb.out hu.out
      have hlen : (splice L o ((dgs 18446744073709551616 k (mulK xs y r k)).map wv)).length = L.length := length_splice _ _ _ (by simp [dgs_length]; omega)
      have hcell := hb.out.cell (o + k) (by rw [hlen]; omega)
      have hf := hb.out.free (o + k)
      have lbb := hb.out.lt
      have hcar := mulK_carry H1.out hy hr k
      have hst := dgs_step 18446744073709551616 k (mulK xs y r k) (xs.getD k 0 * y) (by omega)
      rw [← mulK_succ xs y r k (by rw [LX.out]; exact hlt)] at hst
      have hset := splice_set L o k ((dgs 18446744073709551616 k (mulK xs y r k)).map wv) (wv ((mulK xs y r k / 18446744073709551616 ^ k + xs.getD k 0 * y) % 18446744073709551616)) (by simp [dgs_length]) (by omega)
      have e3 : (dgs 18446744073709551616 k (mulK xs y r k)).map wv ++ [wv ((mulK xs y r k / 18446744073709551616 ^ k + xs.getD k 0 * y) % 18446744073709551616)] = (dgs 18446744073709551616 (k + 1) (mulK xs y r (k + 1))).map wv := by rw [hst.1]; simp
      rw [e3] at hset
      have g1 := getD_lt H1.out k (by rw [LX.out]; exact hlt)
      have QQ : Hid (∀ W, Calls Tryz.prog 146 #[.int .u64 (xs.getD k 0 : Nat), .int .u64 (y : Nat), .int .u64 ((mulK xs y r k / 18446744073709551616 ^ k : Nat) : Int)] W (TwoPost (mulK xs y r (k + 1) / 18446744073709551616 ^ (k + 1)) ((mulK xs y r k / 18446744073709551616 ^ k + xs.getD k 0 * y) % 18446744073709551616) W)) := Lib.hid (fun W => by
        have h := mulAddWWW_any (xs.getD k 0) y _ g1 hy hcar W
        rw [Nat.add_comm (xs.getD k 0 * y), ← hst.2] at h
        exact h)
      have HSET := Lib.hid hset
      have hb3 : (mulK xs y r k / 18446744073709551616 ^ k + xs.getD k 0 * y) % 18446744073709551616 < 18446744073709551616 := Nat.mod_lt _ (by omega)
      clear hst e3 hset hlen hrd
      generalize (mulK xs y r k / 18446744073709551616 ^ k + xs.getD k 0 * y) % 18446744073709551616 = d at *
      generalize mulK xs y r k / 18446744073709551616 ^ k = c at *
      generalize hc' : mulK xs y r (k + 1) / 18446744073709551616 ^ (k + 1) = c' at *
      have HC' := Lib.hid hc'
      clear hc'
      generalize (splice L o ((dgs 18446744073709551616 k (mulK xs y r k)).map wv)).getD (o + k) undef = cv at *
      generalize xs.getD k 0 = u at *
      have hi1 : (0 : Int) ≤ (k : Int) := by omega
      have hi2 : (k : Int) < (n : Int) := by omega
      have hi3 : (k : Int) < (c1 : Int) := by omega
      go_wp2_with fail
      refine (QQ.out _).mono ?_
      rintro e w5 ⟨rfl, rfl⟩
      clear QQ
      go_wp2_with fail
      go_roundw
      case rel =>
        have FS : ∃ k' : Nat, k' ≤ n ∧ (Value.int .i64 ((k : Int) + 1)) = .int .i64 k' ∧ (Value.int .u64 (c' : Int)) = .int .u64 ((mulK xs y r k' / 18446744073709551616 ^ k' : Nat) : Int) ∧ Hid (Blk (wr.setCell ⟨b, o + k, none⟩ (.int .u64 (d : Int))) b 102 (splice L o ((dgs 18446744073709551616 k' (mulK xs y r k')).map wv))) ∧ Hid (Up (some b) w (wr.setCell ⟨b, o + k, none⟩ (.int .u64 (d : Int)))) := by
          refine ⟨k + 1, by omega, by go_num, by rw [HC'.out], Lib.hid ?_, Lib.hid (hu.out.set _ _)⟩
          have := hb.out.set (o + k) (wv d)
          rw [HSET.out] at this
          exact this
        first | exact FS | ((repeat apply Exists.intro); exact ⟨FS, rfl⟩)
      case measure => simp [intOf]; omega
    · obtain rfl : k = n := by omega
      go_wp2_with fail
      go_ret
      exact ⟨rfl, hb.out, hu.out⟩
end Go.Proofs.YtbfgjaammmpcdaaGreatDoor
