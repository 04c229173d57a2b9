/- math/bits.Add, Sub at words; addVV, subVV: sums and differences of rows of words, laid into a row of the caller's own. -/
import Derived.Test.YtbfgjaammmpcdaaGreatDoorNatSet
import Derived.Test.YtbfgjaammmpcdaaGreatDoorCopy
import Derived.Shelf.Spec.BitsCarry
namespace Go.Proofs.YtbfgjaammmpcdaaGreatDoor
open Go.RowKit Dig
set_option linter.unusedVariables false
set_option linter.unusedSimpArgs false
set_option maxRecDepth 100000

theorem add64_run (x y c : Nat) (hc : c ≤ 1) (w : World) :
    (callFunc 127 #[.int .u64 x, .int .u64 y, .int .u64 c]).run Tryz.prog w =
      .ok (.value (.tuple #[.int .u64 (((x + y + c) % 18446744073709551616 : Nat) : Int), .int .u64 (((x + y + c) / 18446744073709551616 : Nat) : Int)])) w := by
  rw [run_callFunc_extern Tryz.func127 (by kernel_rfl) (by kernel_rfl) (by kernel_rfl) (e := add64Entry) (by kernel_rfl), run_add64 x y c (by omega) (by omega) (by omega) (by omega)]
  simp only [Result.andThen]
  congr 5 <;> omega
theorem sub64_run (x y b : Nat) (hb : b ≤ 1) (w : World) :
    (callFunc 129 #[.int .u64 x, .int .u64 y, .int .u64 b]).run Tryz.prog w =
      .ok (.value (.tuple #[.int .u64 (((x + 18446744073709551616 - y - b) % 18446744073709551616 : Nat) : Int), .int .u64 ((if x < y + b then 1 else 0 : Nat) : Int)])) w := by
  rw [run_callFunc_extern Tryz.func129 (by kernel_rfl) (by kernel_rfl) (by kernel_rfl) (e := sub64Entry) (by kernel_rfl), run_sub64 x y b hb]
  rfl

/-- two words returned, nothing done -/
def TwoPost (p q : Nat) (w : World) (e : Ending) (w' : World) : Prop := e = .returned (.tuple #[.int .u64 p, .int .u64 q]) ∧ w = w'
theorem bitsAdd_any (x y c : Nat) (w : World) (hc : c ≤ 1) :
    Calls Tryz.prog 100 #[.int .u64 x, .int .u64 y, .int .u64 c] w (TwoPost ((x + y + c) % 18446744073709551616) ((x + y + c) / 18446744073709551616) w) := by
  have hr := add64_run x y c hc
  generalize (x + y + c) % 18446744073709551616 = p at *
  generalize (x + y + c) / 18446744073709551616 = q at *
  go_enter Tryz.func100, Tryz.ntmps100
  go_wp2_with fail
  go_ret2
  exact ⟨rfl, rfl⟩
theorem bitsSub_any (x y b : Nat) (w : World) (hb : b ≤ 1) :
    Calls Tryz.prog 102 #[.int .u64 x, .int .u64 y, .int .u64 b] w (TwoPost ((x + 18446744073709551616 - y - b) % 18446744073709551616) (if x < y + b then 1 else 0) w) := by
  have hr := sub64_run x y b hb
  generalize (x + 18446744073709551616 - y - b) % 18446744073709551616 = p at *
  generalize (if x < y + b then 1 else 0) = q at *
  go_enter Tryz.func102, Tryz.ntmps102
  go_wp2_with fail
  go_ret2
  exact ⟨rfl, rfl⟩

/-- it returns a word; the row of block b is written -/
def VecPost (b : Nat) (L : List Value) (c : Nat) (w : World) (e : Ending) (w' : World) : Prop :=
  e = .returned (.int .u64 c) ∧ Blk w' b 102 L ∧ Up (some b) w w'

/-- the sum of the first k words of two numbers -/
def sumK (xs ys : List Nat) (k : Nat) : Nat := nval 18446744073709551616 (xs.take k) + nval 18446744073709551616 (ys.take k)
theorem take_lt {xs : List Nat} (h : ∀ x ∈ xs, x < 18446744073709551616) (k : Nat) : nval 18446744073709551616 (xs.take k) < 18446744073709551616 ^ k := by
  have h1 := nval_lt 18446744073709551616 (xs.take k) (fun x hx => h x (List.mem_of_mem_take hx))
  exact Nat.lt_of_lt_of_le h1 (Nat.pow_le_pow_right (by omega) (by simp; omega))
theorem sumK_carry {xs ys : List Nat} (h1 : ∀ x ∈ xs, x < 18446744073709551616) (h2 : ∀ x ∈ ys, x < 18446744073709551616) (k : Nat) : sumK xs ys k / 18446744073709551616 ^ k ≤ 1 := by
  have a := take_lt h1 k
  have b := take_lt h2 k
  unfold sumK
  have : (nval 18446744073709551616 (xs.take k) + nval 18446744073709551616 (ys.take k)) / 18446744073709551616 ^ k < 2 := by
    rw [Nat.div_lt_iff_lt_mul (Nat.pow_pos (by omega))]; omega
  omega
theorem sumK_succ (xs ys : List Nat) (k : Nat) (h1 : k < xs.length) (h2 : k < ys.length) : sumK xs ys (k + 1) = sumK xs ys k + 18446744073709551616 ^ k * (xs.getD k 0 + ys.getD k 0) := by
  unfold sumK
  rw [nval_take_succ _ xs k h1, nval_take_succ _ ys k h2, Nat.mul_add]
  omega
theorem getD_lt {xs : List Nat} {B : Nat} (h : ∀ x ∈ xs, x < B) (k : Nat) (hk : k < xs.length) : xs.getD k 0 < B :=
  h _ (by rw [List.getD_eq_getElem?_getD, List.getElem?_eq_getElem hk]; simp)

/-- the cell k of a slice of words -/
theorem Sl.word {w : World} {B : Nat} {a : Option Addr} {n c : Nat} {xs : List Nat} (h : Sl w B (.slice a n c) (xs.map wv)) (k : Nat) (hk : k < xs.length) :
    ∃ b o, a = some ⟨b, o, none⟩ ∧ b < B ∧ n = xs.length ∧ w.cell? ⟨b, o + k, none⟩ = some (.int .u64 ((xs.getD k 0 : Nat) : Int)) := by
  obtain ⟨a', c', hv, hc, hr⟩ := h
  simp only [Value.slice.injEq] at hv
  obtain ⟨rfl, rfl, rfl⟩ := hv
  obtain ⟨b, o, ha, hb, hrd⟩ := hr (by intro h0; rw [List.map_eq_nil_iff] at h0; subst h0; simp at hk)
  have := hrd k (by simpa using hk)
  rw [getD_map_wv xs k hk] at this
  exact ⟨b, o, ha, hb, by simp, this⟩

set_option maxHeartbeats 1600000 in
theorem addVVg_any (xs ys : List Nat) (L : List Value) (b o n cz B : Nat) (x y : Value) (w : World) (hx : Sl w B x (xs.map wv)) (hy : Sl w B y (ys.map wv)) (lx : xs.length = n) (ly : ys.length = n)
    (hxs : ∀ x ∈ xs, x < 18446744073709551616) (hys : ∀ x ∈ ys, x < 18446744073709551616) (hB : B ≤ b) (hBw : B ≤ w.heap.size) (hk : Blk w b 102 L) (hn : o + n ≤ L.length) (hl : n ≤ 1048576) :
    Calls Tryz.prog 99 #[.slice (some ⟨b, o, none⟩) n cz, x, y] w
      (VecPost b (splice L o ((dgs 18446744073709551616 n (nval 18446744073709551616 xs + nval 18446744073709551616 ys)).map wv)) ((nval 18446744073709551616 xs + nval 18446744073709551616 ys) / 18446744073709551616 ^ n) w) := by
  obtain ⟨a1, c1, rfl, hc1, _⟩ := id hx
  obtain ⟨a2, c2, rfl, hc2, _⟩ := id hy
  simp only [List.length_map, lx, ly] at hx hy hc1 hc2 ⊢
  have hfin : sumK xs ys n = nval 18446744073709551616 xs + nval 18446744073709551616 ys := by
    unfold sumK; rw [List.take_of_length_le (by omega), List.take_of_length_le (by omega)]
  rw [← hfin]
  have HX := Lib.hid hx
  have HY := Lib.hid hy
  have H1 := Lib.hid hxs
  have H2 := Lib.hid hys
  have LX := Lib.hid lx
  have LY := Lib.hid ly
  have HK := Lib.hid hk
  clear hx hy hxs hys lx ly hk hfin
  go_enter Tryz.func99, Tryz.ntmps99
  go_wp2_with fail
  go_loopw [6, 25] (fun c i wr => ∃ k : Nat, k ≤ n ∧ i = .int .i64 k ∧ c = .int .u64 ((sumK xs ys k / 18446744073709551616 ^ k : Nat) : Int) ∧ Hid (Blk wr b 102 (splice L o ((dgs 18446744073709551616 k (sumK xs ys k)).map wv))) ∧ Hid (Up (some b) w wr)) (fun _ i _ => n - (intOf i).toNat)
  case atStart => exact ⟨0, Nat.zero_le _, rfl, by simp [sumK, nval], Lib.hid (by simpa [dgs, splice_nil] using HK.out), Lib.hid (Up.refl _ _)⟩
  case round =>
    obtain ⟨k, hkn, rfl, rfl, hb, hu⟩ := hrel
    by_cases hlt : k < n
    · obtain ⟨b1, o1, rfl, hb1, _, q1⟩ := (HX.out.up hu.out hBw hB).word k (by rw [LX.out]; exact hlt)
      obtain ⟨b2, o2, rfl, hb2, _, q2⟩ := (HY.out.up hu.out hBw hB).word k (by rw [LY.out]; exact hlt)
      have hlen : (splice L o ((dgs 18446744073709551616 k (sumK xs ys k)).map wv)).length = L.length := length_splice _ _ _ (by simp [dgs_length]; omega)
      have hcell := hb.out.cell (o + k) (by rw [hlen]; omega)
      have hf := hb.out.free (o + k)
      have hcar := sumK_carry H1.out H2.out k
      have hst := dgs_step 18446744073709551616 k (sumK xs ys k) (xs.getD k 0 + ys.getD k 0) (by omega)
      rw [← sumK_succ xs ys k (by rw [LX.out]; exact hlt) (by rw [LY.out]; exact hlt)] at hst
      have hset := splice_set L o k ((dgs 18446744073709551616 k (sumK xs ys k)).map wv) (wv ((sumK xs ys k / 18446744073709551616 ^ k + (xs.getD k 0 + ys.getD k 0)) % 18446744073709551616)) (by simp [dgs_length]) (by omega)
      have e3 : (dgs 18446744073709551616 k (sumK xs ys k)).map wv ++ [wv ((sumK xs ys k / 18446744073709551616 ^ k + (xs.getD k 0 + ys.getD k 0)) % 18446744073709551616)] = (dgs 18446744073709551616 (k + 1) (sumK xs ys (k + 1))).map wv := by rw [hst.1]; simp
      rw [e3] at hset
      have Q : ∀ m, Calls Tryz.prog 100 #[.int .u64 (xs.getD k 0 : Nat), .int .u64 (ys.getD k 0 : Nat), .int .u64 ((sumK xs ys k / 18446744073709551616 ^ k : Nat) : Int)] (wr.drewN m) fun e w'' => e = .returned (.tuple #[.int .u64 (((sumK xs ys k / 18446744073709551616 ^ k + (xs.getD k 0 + ys.getD k 0)) % 18446744073709551616 : Nat) : Int), .int .u64 ((sumK xs ys (k + 1) / 18446744073709551616 ^ (k + 1) : Nat) : Int)]) ∧ ∃ m', w'' = wr.drewN m' := by
        intro m
        refine (bitsAdd_any _ _ _ _ hcar).mono ?_
        rintro e w' ⟨rfl, rfl⟩
        refine ⟨?_, m, rfl⟩
        rw [hst.2, Nat.add_comm (sumK xs ys k / 18446744073709551616 ^ k)]
      have QQ := Lib.hid Q
      have HSET := Lib.hid hset
      have g1 := getD_lt H1.out k (by rw [LX.out]; exact hlt)
      have g2 := getD_lt H2.out k (by rw [LY.out]; exact hlt)
      have hb3 : (sumK xs ys k / 18446744073709551616 ^ k + (xs.getD k 0 + ys.getD k 0)) % 18446744073709551616 < 18446744073709551616 := Nat.mod_lt _ (by omega)
      clear hst e3 hset Q hlen
      generalize (sumK xs ys k / 18446744073709551616 ^ k + (xs.getD k 0 + ys.getD k 0)) % 18446744073709551616 = d at *
      generalize sumK xs ys k / 18446744073709551616 ^ k = c at *
      generalize hc' : sumK xs ys (k + 1) / 18446744073709551616 ^ (k + 1) = c' at *
      have HC' := Lib.hid hc'
      clear hc'
      generalize (splice L o ((dgs 18446744073709551616 k (sumK xs ys k)).map wv)).getD (o + k) undef = cv at *
      generalize xs.getD k 0 = u at *
      generalize ys.getD k 0 = v at *
      have hi1 : (0 : Int) ≤ (k : Int) := by omega
      have hi2 : (k : Int) < (n : Int) := by omega
      go_wp2_with fail
      go_quiet ((go_at_call 100; exact QQ.out _))
      go_wp2_with fail
      go_roundw
      case rel =>
        refine ⟨k + 1, by omega, by go_num, by rw [HC'.out], Lib.hid ?_, Lib.hid ((hu.out.drewN _).set _ _)⟩
        have := (hb.out.drewN nq).set (o + k) (wv d)
        rw [HSET.out] at this
        exact this
      case measure => simp [intOf]; omega
    · obtain rfl : k = n := by omega
      go_wp2_with fail
      go_ret
      exact ⟨rfl, hb.out, hu.out⟩
/-- the difference of the first k words of two numbers, and what is borrowed -/
def difK (xs ys : List Nat) (k : Nat) : Nat := nval 18446744073709551616 (xs.take k) + 18446744073709551616 ^ k - nval 18446744073709551616 (ys.take k)
def borK (xs ys : List Nat) (k : Nat) : Nat := if nval 18446744073709551616 (xs.take k) < nval 18446744073709551616 (ys.take k) then 1 else 0
theorem borK_le (xs ys : List Nat) (k : Nat) : borK xs ys k ≤ 1 := by unfold borK; split <;> omega
theorem difK_succ {xs ys : List Nat} (h1 : ∀ x ∈ xs, x < 18446744073709551616) (h2 : ∀ x ∈ ys, x < 18446744073709551616) (k : Nat) (hx : k < xs.length) (hy : k < ys.length) :
    dgs 18446744073709551616 (k + 1) (difK xs ys (k + 1)) = dgs 18446744073709551616 k (difK xs ys k) ++ [(xs.getD k 0 + 18446744073709551616 - ys.getD k 0 - borK xs ys k) % 18446744073709551616] ∧
    borK xs ys (k + 1) = if xs.getD k 0 < ys.getD k 0 + borK xs ys k then 1 else 0 := by
  unfold difK borK
  rw [nval_take_succ _ xs k hx, nval_take_succ _ ys k hy]
  exact sub_step 18446744073709551616 k _ _ _ _ (by omega) (take_lt h1 k) (take_lt h2 k) (getD_lt h2 k hy)

set_option maxHeartbeats 1600000 in
theorem subVVg_any (xs ys : List Nat) (L : List Value) (b o n cz B : Nat) (x y : Value) (w : World) (hx : Sl w B x (xs.map wv)) (hy : Sl w B y (ys.map wv)) (lx : xs.length = n) (ly : ys.length = n)
    (hxs : ∀ x ∈ xs, x < 18446744073709551616) (hys : ∀ x ∈ ys, x < 18446744073709551616) (hB : B ≤ b) (hBw : B ≤ w.heap.size) (hk : Blk w b 102 L) (hn : o + n ≤ L.length) (hl : n ≤ 1048576) :
    Calls Tryz.prog 101 #[.slice (some ⟨b, o, none⟩) n cz, x, y] w
      (VecPost b (splice L o ((dgs 18446744073709551616 n (nval 18446744073709551616 xs + 18446744073709551616 ^ n - nval 18446744073709551616 ys)).map wv)) (if nval 18446744073709551616 xs < nval 18446744073709551616 ys then 1 else 0) w) := by
  obtain ⟨a1, c1, rfl, hc1, _⟩ := id hx
  obtain ⟨a2, c2, rfl, hc2, _⟩ := id hy
  simp only [List.length_map, lx, ly] at hx hy hc1 hc2 ⊢
  have hfin : difK xs ys n = nval 18446744073709551616 xs + 18446744073709551616 ^ n - nval 18446744073709551616 ys := by
    unfold difK; rw [List.take_of_length_le (by omega), List.take_of_length_le (by omega)]
  have hfin2 : borK xs ys n = if nval 18446744073709551616 xs < nval 18446744073709551616 ys then 1 else 0 := by
    unfold borK; rw [List.take_of_length_le (by omega), List.take_of_length_le (by omega)]
  rw [← hfin, ← hfin2]
  have HX := Lib.hid hx
  have HY := Lib.hid hy
  have H1 := Lib.hid hxs
  have H2 := Lib.hid hys
  have LX := Lib.hid lx
  have LY := Lib.hid ly
  have HK := Lib.hid hk
  clear hx hy hxs hys lx ly hk hfin hfin2
  go_enter Tryz.func101, Tryz.ntmps101
  go_wp2_with fail
  go_loopw [6, 25] (fun c i wr => ∃ k : Nat, k ≤ n ∧ i = .int .i64 k ∧ c = .int .u64 ((borK xs ys k : Nat) : Int) ∧ Hid (Blk wr b 102 (splice L o ((dgs 18446744073709551616 k (difK xs ys k)).map wv))) ∧ Hid (Up (some b) w wr)) (fun _ i _ => n - (intOf i).toNat)
  case atStart => exact ⟨0, Nat.zero_le _, rfl, by simp [borK, nval], Lib.hid (by simpa [dgs, splice_nil] using HK.out), Lib.hid (Up.refl _ _)⟩
  case round =>
    obtain ⟨k, hkn, rfl, rfl, hb, hu⟩ := hrel
    by_cases hlt : k < n
    · obtain ⟨b1, o1, rfl, hb1, _, q1⟩ := (HX.out.up hu.out hBw hB).word k (by rw [LX.out]; exact hlt)
      obtain ⟨b2, o2, rfl, hb2, _, q2⟩ := (HY.out.up hu.out hBw hB).word k (by rw [LY.out]; exact hlt)
      have hlen : (splice L o ((dgs 18446744073709551616 k (difK xs ys k)).map wv)).length = L.length := length_splice _ _ _ (by simp [dgs_length]; omega)
      have hcell := hb.out.cell (o + k) (by rw [hlen]; omega)
      have hf := hb.out.free (o + k)
      have hcar := borK_le xs ys k
      have hst := difK_succ H1.out H2.out k (by rw [LX.out]; exact hlt) (by rw [LY.out]; exact hlt)
      have hset := splice_set L o k ((dgs 18446744073709551616 k (difK xs ys k)).map wv) (wv ((xs.getD k 0 + 18446744073709551616 - ys.getD k 0 - borK xs ys k) % 18446744073709551616)) (by simp [dgs_length]) (by omega)
      have e3 : (dgs 18446744073709551616 k (difK xs ys k)).map wv ++ [wv ((xs.getD k 0 + 18446744073709551616 - ys.getD k 0 - borK xs ys k) % 18446744073709551616)] = (dgs 18446744073709551616 (k + 1) (difK xs ys (k + 1))).map wv := by rw [hst.1]; simp
      rw [e3] at hset
      have Q : ∀ m, Calls Tryz.prog 102 #[.int .u64 (xs.getD k 0 : Nat), .int .u64 (ys.getD k 0 : Nat), .int .u64 ((borK xs ys k : Nat) : Int)] (wr.drewN m) fun e w'' => e = .returned (.tuple #[.int .u64 (((xs.getD k 0 + 18446744073709551616 - ys.getD k 0 - borK xs ys k) % 18446744073709551616 : Nat) : Int), .int .u64 ((borK xs ys (k + 1) : Nat) : Int)]) ∧ ∃ m', w'' = wr.drewN m' := by
        intro m
        refine (bitsSub_any _ _ _ _ hcar).mono ?_
        rintro e w' ⟨rfl, rfl⟩
        refine ⟨?_, m, rfl⟩
        rw [hst.2]
      have QQ := Lib.hid Q
      have HSET := Lib.hid hset
      have g1 := getD_lt H1.out k (by rw [LX.out]; exact hlt)
      have g2 := getD_lt H2.out k (by rw [LY.out]; exact hlt)
      have hb3 : (xs.getD k 0 + 18446744073709551616 - ys.getD k 0 - borK xs ys k) % 18446744073709551616 < 18446744073709551616 := Nat.mod_lt _ (by omega)
      clear hst e3 hset Q hlen
      generalize (xs.getD k 0 + 18446744073709551616 - ys.getD k 0 - borK xs ys k) % 18446744073709551616 = d at *
      generalize borK xs ys k = c at *
      generalize hc' : borK xs ys (k + 1) = c' at *
      have HC' := Lib.hid hc'
      clear hc'
      generalize (splice L o ((dgs 18446744073709551616 k (difK xs ys k)).map wv)).getD (o + k) undef = cv at *
      generalize xs.getD k 0 = u at *
      generalize ys.getD k 0 = v at *
      have hi1 : (0 : Int) ≤ (k : Int) := by omega
      have hi2 : (k : Int) < (n : Int) := by omega
      go_wp2_with fail
      go_quiet ((go_at_call 102; exact QQ.out _))
      go_wp2_with fail
      go_roundw
      case rel =>
        refine ⟨k + 1, by omega, by go_num, by rw [HC'.out], Lib.hid ?_, Lib.hid ((hu.out.drewN _).set _ _)⟩
        have := (hb.out.drewN nq).set (o + k) (wv d)
        rw [HSET.out] at this
        exact this
      case measure => simp [intOf]; omega
    · obtain rfl : k = n := by omega
      go_wp2_with fail
      go_ret
      exact ⟨rfl, hb.out, hu.out⟩
theorem addVV_any (xs ys : List Nat) (L : List Value) (b o n cz B : Nat) (x y : Value) (w : World) (hx : Sl w B x (xs.map wv)) (hy : Sl w B y (ys.map wv)) (lx : xs.length = n) (ly : ys.length = n)
    (hxs : ∀ x ∈ xs, x < 18446744073709551616) (hys : ∀ x ∈ ys, x < 18446744073709551616) (hB : B ≤ b) (hBw : B ≤ w.heap.size) (hk : Blk w b 102 L) (hn : o + n ≤ L.length) (hl : n ≤ 1048576) :
    Calls Tryz.prog 78 #[.slice (some ⟨b, o, none⟩) n cz, x, y] w
      (VecPost b (splice L o ((dgs 18446744073709551616 n (nval 18446744073709551616 xs + nval 18446744073709551616 ys)).map wv)) ((nval 18446744073709551616 xs + nval 18446744073709551616 ys) / 18446744073709551616 ^ n) w) := by
  have C := Lib.hid (addVVg_any xs ys L b o n cz B x y w hx hy lx ly hxs hys hB hBw hk hn hl)
  obtain ⟨a1, c1, rfl, _⟩ := id hx
  obtain ⟨a2, c2, rfl, _⟩ := id hy
  simp only [List.length_map, lx, ly] at C ⊢
  clear hx hy lx ly hxs hys hk
  generalize splice L o _ = L' at *
  generalize (nval 18446744073709551616 xs + nval 18446744073709551616 ys) / 18446744073709551616 ^ n = q at *
  go_enter Tryz.func78, Tryz.ntmps78
  go_wp2_with fail
  refine C.out.mono ?_
  rintro e w' ⟨rfl, h1, h2⟩
  have H1 := Lib.hid h1
  have H2 := Lib.hid h2
  clear h1 h2
  go_wp2_with fail
  go_ret
  exact ⟨rfl, H1.out, H2.out⟩
theorem subVV_any (xs ys : List Nat) (L : List Value) (b o n cz B : Nat) (x y : Value) (w : World) (hx : Sl w B x (xs.map wv)) (hy : Sl w B y (ys.map wv)) (lx : xs.length = n) (ly : ys.length = n)
    (hxs : ∀ x ∈ xs, x < 18446744073709551616) (hys : ∀ x ∈ ys, x < 18446744073709551616) (hB : B ≤ b) (hBw : B ≤ w.heap.size) (hk : Blk w b 102 L) (hn : o + n ≤ L.length) (hl : n ≤ 1048576) :
    Calls Tryz.prog 80 #[.slice (some ⟨b, o, none⟩) n cz, x, y] w
      (VecPost b (splice L o ((dgs 18446744073709551616 n (nval 18446744073709551616 xs + 18446744073709551616 ^ n - nval 18446744073709551616 ys)).map wv)) (if nval 18446744073709551616 xs < nval 18446744073709551616 ys then 1 else 0) w) := by
  have C := Lib.hid (subVVg_any xs ys L b o n cz B x y w hx hy lx ly hxs hys hB hBw hk hn hl)
  obtain ⟨a1, c1, rfl, _⟩ := id hx
  obtain ⟨a2, c2, rfl, _⟩ := id hy
  simp only [List.length_map, lx, ly] at C ⊢
  clear hx hy lx ly hxs hys hk
  generalize splice L o _ = L' at *
  generalize (if nval 18446744073709551616 xs < nval 18446744073709551616 ys then 1 else 0) = q at *
  go_enter Tryz.func80, Tryz.ntmps80
  go_wp2_with fail
  refine C.out.mono ?_
  rintro e w' ⟨rfl, h1, h2⟩
  have H1 := Lib.hid h1
  have H2 := Lib.hid h2
  clear h1 h2
  go_wp2_with fail
  go_ret
  exact ⟨rfl, H1.out, H2.out⟩
end Go.Proofs.YtbfgjaammmpcdaaGreatDoor
