/- math/bits.Mul; mulAddWWW, mulAddVWW: a row of words times a word, and a word; the row that is read may be the row that is written. mulAddVWW; (nat).mulAddWW over a nat of one's own: times a word, and a word. -/
import Derived.Test.YtpcnmgldmnncoaaGreatDoorMVec
import Derived.Test.YtpcnmgldmnncoaaGreatDoorMulShelf
import Derived.Deep.RegionLaw
namespace Go.Proofs.YtpcnmgldmnncoaaGreatDoor
open Go.RowKit Dig
set_option linter.unusedVariables false
set_option linter.unusedSimpArgs false
set_option maxRecDepth 100000

theorem bitsMul_any (x y : Nat) (hx : x < 18446744073709551616) (hy : y < 18446744073709551616) (w : World) :
    Calls Tryz.prog 114 #[.int .u64 x, .int .u64 y] w (TwoPost (x * y / 18446744073709551616) (x * y % 18446744073709551616) w) :=
  (Any.bits_Mul lays212 x y hx hy w).mono (by rintro e w' ⟨rfl, rfl⟩; exact ⟨rfl, rfl⟩)
theorem mulAdd_parts (B h l c : Nat) (hl : l < B) (hc : c < B) : (B * h + l + c) / B = h + (l + c) / B ∧ (B * h + l + c) % B = (l + c) % B := by
  have hB : 0 < B := by omega
  rw [Nat.add_assoc]
  exact ⟨Nat.mul_add_div hB _ _, Nat.mul_add_mod _ _ _⟩
theorem mulAdd_lt (B x y c : Nat) (hx : x < B) (hy : y < B) (hc : c < B) : (x * y + c) / B < B := by
  have hB : 0 < B := by omega
  rw [Nat.div_lt_iff_lt_mul hB]
  have h1 : x * y ≤ (B - 1) * (B - 1) := Nat.mul_le_mul (by omega) (by omega)
  have h2 : (B - 1) * (B - 1) + (B - 1) + (B - 1) + 1 = B * B := by
    obtain ⟨k, rfl⟩ : ∃ k, B = k + 1 := ⟨B - 1, by omega⟩
    simp only [Nat.add_sub_cancel]
    grind
  omega
theorem mulAddWWW_any (x y c : Nat) (hx : x < 18446744073709551616) (hy : y < 18446744073709551616) (hc : c < 18446744073709551616) (w : World) :
    Calls Tryz.prog 125 #[.int .u64 x, .int .u64 y, .int .u64 c] w (TwoPost ((x * y + c) / 18446744073709551616) ((x * y + c) % 18446744073709551616) w) := by
  have hl : x * y % 18446744073709551616 < 18446744073709551616 := Nat.mod_lt _ (by omega)
  have hp := mulAdd_parts 18446744073709551616 (x * y / 18446744073709551616) (x * y % 18446744073709551616) c hl hc
  rw [Nat.div_add_mod] at hp
  have hlt := mulAdd_lt 18446744073709551616 x y c hx hy hc
  have C1 := Lib.hid (fun W => bitsMul_any x y hx hy W)
  have C2 := Lib.hid (fun W => bitsAdd_any (x * y % 18446744073709551616) c 0 W (by omega))
  simp only [Nat.add_zero] at C2
  rw [hp.1] at hlt
  rw [hp.1, hp.2]
  generalize (x * y % 18446744073709551616 + c) / 18446744073709551616 = q at *
  generalize (x * y % 18446744073709551616 + c) % 18446744073709551616 = r at *
  generalize x * y / 18446744073709551616 = h at *
  generalize x * y % 18446744073709551616 = l at *
  have hs : IntKind.u64.wrap ((h : Int) + (q : Int)) = ((h + q : Nat) : Int) := by rw [IntKind.wrap_u64]; omega
  clear hp hl
  go_enter Tryz.func125, Tryz.ntmps125
  go_wp2_with fail
  refine (C1.out _).mono ?_
  rintro e w1 ⟨rfl, rfl⟩
  go_wp2_with fail
  refine (C2.out _).mono ?_
  rintro e w1 ⟨rfl, rfl⟩
  clear C1 C2
  go_wp2_with fail
  go_ret2
  exact ⟨rfl, rfl⟩

/-- the first k words times y, and r -/
def mulK (xs : List Nat) (y r k : Nat) : Nat := nval 18446744073709551616 (xs.take k) * y + r
theorem mulK_succ (xs : List Nat) (y r k : Nat) (h1 : k < xs.length) : mulK xs y r (k + 1) = mulK xs y r k + 18446744073709551616 ^ k * (xs.getD k 0 * y) := by
  unfold mulK
  rw [nval_take_succ _ xs k h1, Nat.add_mul, Nat.mul_assoc]
  omega
theorem mulK_carry {xs : List Nat} {y r : Nat} (h1 : ∀ x ∈ xs, x < 18446744073709551616) (hy : y < 18446744073709551616) (hr : r < 18446744073709551616) (k : Nat) : mulK xs y r k / 18446744073709551616 ^ k < 18446744073709551616 := by
  rw [Nat.div_lt_iff_lt_mul (Nat.pow_pos (by omega))]
  have a := take_lt h1 k
  unfold mulK
  obtain ⟨P, hP⟩ : ∃ P, P = 18446744073709551616 ^ k := ⟨_, rfl⟩
  rw [← hP] at a ⊢
  have h0 : 0 < P := by rw [hP]; exact Nat.pow_pos (by omega)
  generalize nval 18446744073709551616 (xs.take k) = X at *
  have h2 : X * y ≤ (P - 1) * 18446744073709551615 := Nat.mul_le_mul (by omega) (by omega)
  obtain ⟨Q, rfl⟩ : ∃ Q, P = Q + 1 := ⟨P - 1, by omega⟩
  rw [Nat.add_sub_cancel] at h2
  omega
set_option maxHeartbeats 1600000 in
/-- x may lie in the row that is written: it is read before its place is -/
theorem mulAddVWWg_any (xs : List Nat) (y r : Nat) (L : List Value) (b o n cz c1 : Nat) (a1 : Option Addr) (w : World) (lx : xs.length = n) (hc1 : n ≤ c1) (hxs : ∀ x ∈ xs, x < 18446744073709551616) (hy : y < 18446744073709551616) (hr : r < 18446744073709551616)
    (hk : Blk w b 79 L) (hn : o + n ≤ L.length) (hl : n ≤ 1048576) (hread : n ≠ 0 → ∃ b1 o1, a1 = some ⟨b1, o1, none⟩ ∧ ∀ wr k, k < n → Blk wr b 79 (splice L o ((dgs 18446744073709551616 k (mulK xs y r k)).map wv)) → Up (some b) w wr → wr.cell? ⟨b1, o1 + k, none⟩ = some (.int .u64 ((xs.getD k 0 : Nat) : Int)) ∧ b1 < wr.heap.size) :
    Calls Tryz.prog 120 #[.slice (some ⟨b, o, none⟩) n cz, .slice a1 n c1, .int .u64 y, .int .u64 r] w
      (VecPost b (splice L o ((dgs 18446744073709551616 n (nval 18446744073709551616 xs * y + r)).map wv)) ((nval 18446744073709551616 xs * y + r) / 18446744073709551616 ^ n) w) := by
  have hfin : mulK xs y r n = nval 18446744073709551616 xs * y + r := by
    unfold mulK; rw [List.take_of_length_le (by omega)]
  rw [← hfin]
  have H1 := Lib.hid hxs
  have LX := Lib.hid lx
  have HK := Lib.hid hk
  have HRD := Lib.hid hread
  clear hxs lx hk hfin hread
  go_enter Tryz.func120, Tryz.ntmps120
  go_wp2_with fail
  go_loopw [8, 19] (fun c i wr => ∃ k : Nat, k ≤ n ∧ i = .int .i64 k ∧ c = .int .u64 ((mulK xs y r k / 18446744073709551616 ^ k : Nat) : Int) ∧ Hid (Blk wr b 79 (splice L o ((dgs 18446744073709551616 k (mulK xs y r k)).map wv))) ∧ Hid (Up (some b) w wr)) (fun _ i _ => n - (intOf i).toNat)
  case atStart => exact ⟨0, Nat.zero_le _, rfl, by simp [mulK, nval], Lib.hid (by simpa [dgs, splice_nil] using HK.out), Lib.hid (Up.refl _ _)⟩
  case round =>
    obtain ⟨k, hkn, rfl, rfl, hb, hu⟩ := hrel
    by_cases hlt : k < n
    · obtain ⟨b1, o1, rfl, hrd⟩ := HRD.out (by omega)
      obtain ⟨q1, lb1⟩ := hrd wr k hlt hb.out hu.out
      have hlen : (splice L o ((dgs 18446744073709551616 k (mulK xs y r k)).map wv)).length = L.length := length_splice _ _ _ (by simp [dgs_length]; omega)
      have hcell := hb.out.cell (o + k) (by rw [hlen]; omega)
      have hf := hb.out.free (o + k)
      have lbb := hb.out.lt
      have hcar := mulK_carry H1.out hy hr k
      have hst := dgs_step 18446744073709551616 k (mulK xs y r k) (xs.getD k 0 * y) (by omega)
      rw [← mulK_succ xs y r k (by rw [LX.out]; exact hlt)] at hst
      have hset := splice_set L o k ((dgs 18446744073709551616 k (mulK xs y r k)).map wv) (wv ((mulK xs y r k / 18446744073709551616 ^ k + xs.getD k 0 * y) % 18446744073709551616)) (by simp [dgs_length]) (by omega)
      have e3 : (dgs 18446744073709551616 k (mulK xs y r k)).map wv ++ [wv ((mulK xs y r k / 18446744073709551616 ^ k + xs.getD k 0 * y) % 18446744073709551616)] = (dgs 18446744073709551616 (k + 1) (mulK xs y r (k + 1))).map wv := by rw [hst.1]; simp
      rw [e3] at hset
      have g1 := getD_lt H1.out k (by rw [LX.out]; exact hlt)
      have QQ : Hid (∀ W, Calls Tryz.prog 125 #[.int .u64 (xs.getD k 0 : Nat), .int .u64 (y : Nat), .int .u64 ((mulK xs y r k / 18446744073709551616 ^ k : Nat) : Int)] W (TwoPost (mulK xs y r (k + 1) / 18446744073709551616 ^ (k + 1)) ((mulK xs y r k / 18446744073709551616 ^ k + xs.getD k 0 * y) % 18446744073709551616) W)) := Lib.hid (fun W => by
        have h := mulAddWWW_any (xs.getD k 0) y _ g1 hy hcar W
        rw [Nat.add_comm (xs.getD k 0 * y), ← hst.2] at h
        exact h)
      have HSET := Lib.hid hset
      have hb3 : (mulK xs y r k / 18446744073709551616 ^ k + xs.getD k 0 * y) % 18446744073709551616 < 18446744073709551616 := Nat.mod_lt _ (by omega)
      clear hst e3 hset hlen hrd
      generalize (mulK xs y r k / 18446744073709551616 ^ k + xs.getD k 0 * y) % 18446744073709551616 = d at *
      generalize mulK xs y r k / 18446744073709551616 ^ k = c at *
      generalize hc' : mulK xs y r (k + 1) / 18446744073709551616 ^ (k + 1) = c' at *
      have HC' := Lib.hid hc'
      clear hc'
      generalize (splice L o ((dgs 18446744073709551616 k (mulK xs y r k)).map wv)).getD (o + k) undef = cv at *
      generalize xs.getD k 0 = u at *
      have hi1 : (0 : Int) ≤ (k : Int) := by omega
      have hi2 : (k : Int) < (n : Int) := by omega
      have hi3 : (k : Int) < (c1 : Int) := by omega
      go_wp2_with fail
      refine (QQ.out _).mono ?_
      rintro e w5 ⟨rfl, rfl⟩
      clear QQ
      go_wp2_with fail
      go_roundw
      case rel =>
        have FS : ∃ k' : Nat, k' ≤ n ∧ (Value.int .i64 ((k : Int) + 1)) = .int .i64 k' ∧ (Value.int .u64 (c' : Int)) = .int .u64 ((mulK xs y r k' / 18446744073709551616 ^ k' : Nat) : Int) ∧ Hid (Blk (wr.setCell ⟨b, o + k, none⟩ (.int .u64 (d : Int))) b 79 (splice L o ((dgs 18446744073709551616 k' (mulK xs y r k')).map wv))) ∧ Hid (Up (some b) w (wr.setCell ⟨b, o + k, none⟩ (.int .u64 (d : Int)))) := by
          refine ⟨k + 1, by omega, by go_num, by rw [HC'.out], Lib.hid ?_, Lib.hid (hu.out.set _ _)⟩
          have := hb.out.set (o + k) (wv d)
          rw [HSET.out] at this
          exact this
        first | exact FS | ((repeat apply Exists.intro); exact ⟨FS, rfl⟩)
      case measure => simp [intOf]; omega
    · obtain rfl : k = n := by omega
      go_wp2_with fail
      go_ret
      exact ⟨rfl, hb.out, hu.out⟩
end Go.Proofs.YtpcnmgldmnncoaaGreatDoor

namespace Go.Proofs.YtpcnmgldmnncoaaGreatDoor
open Go.RowKit Dig
set_option linter.unusedVariables false
set_option linter.unusedSimpArgs false
set_option maxRecDepth 100000

theorem mulAddVWW_any (xs : List Nat) (y r : Nat) (L : List Value) (b o n cz c1 : Nat) (a1 : Option Addr) (w : World) (lx : xs.length = n) (hc1 : n ≤ c1) (hxs : ∀ x ∈ xs, x < 18446744073709551616) (hy : y < 18446744073709551616) (hr : r < 18446744073709551616)
    (hk : Blk w b 79 L) (hn : o + n ≤ L.length) (hl : n ≤ 1048576) (hread : n ≠ 0 → ∃ b1 o1, a1 = some ⟨b1, o1, none⟩ ∧ ∀ wr k, k < n → Blk wr b 79 (splice L o ((dgs 18446744073709551616 k (mulK xs y r k)).map wv)) → Up (some b) w wr → wr.cell? ⟨b1, o1 + k, none⟩ = some (.int .u64 ((xs.getD k 0 : Nat) : Int)) ∧ b1 < wr.heap.size) :
    Calls Tryz.prog 107 #[.slice (some ⟨b, o, none⟩) n cz, .slice a1 n c1, .int .u64 y, .int .u64 r] w
      (VecPost b (splice L o ((dgs 18446744073709551616 n (nval 18446744073709551616 xs * y + r)).map wv)) ((nval 18446744073709551616 xs * y + r) / 18446744073709551616 ^ n) w) := by
  have C := Lib.hid (mulAddVWWg_any xs y r L b o n cz c1 a1 w lx hc1 hxs hy hr hk hn hl hread)
  clear lx hxs hk hread
  generalize splice L o _ = L' at *
  generalize (nval 18446744073709551616 xs * y + r) / 18446744073709551616 ^ n = q at *
  go_enter Tryz.func107, Tryz.ntmps107
  go_wp2_with fail
  refine C.out.mono ?_
  rintro e w' ⟨rfl, h1, h2⟩
  have H1 := Lib.hid h1
  have H2 := Lib.hid h2
  clear h1 h2
  go_wp2_with fail
  go_ret
  exact ⟨rfl, H1.out, H2.out⟩
/-- a nat of one's own: its block is not below H -/
def OwnN (w : World) (H : Nat) (v : Value) (m : Nat) : Prop :=
  (v = .slice none 0 0 ∧ m = 0) ∨ ∃ b n c ws L, v = .slice (some ⟨b, 0, none⟩) n c ∧ H ≤ b ∧ 0 < n ∧ ws.length = n ∧ n ≤ c ∧ c ≤ 1048576 ∧ L.length = c ∧ Blk w b 79 L ∧ L.take n = ws.map wv ∧ Rep 18446744073709551616 ws m
theorem OwnN.below {w w' : World} {H : Nat} {v : Value} {m : Nat} (h : OwnN w H v m) (hb : Below w.heap.size w w') : OwnN w' H v m := by
  rcases h with h | ⟨b, n, c, ws, L, h1, h2, h3, h4, h5, h6, h7, h8, h9, h10⟩
  · exact .inl h
  · exact .inr ⟨b, n, c, ws, L, h1, h2, h3, h4, h5, h6, h7, h8.below hb h8.lt, h9, h10⟩
theorem OwnN.nt {w : World} {H : Nat} {v : Value} {m : Nat} (h : OwnN w H v m) : Nt w w.heap.size v m := by
  rcases h with ⟨rfl, rfl⟩ | ⟨b, n, c, ws, L, rfl, h2, h3, h4, h5, h6, h7, h8, h9, h10⟩
  · exact ⟨[], ⟨by simp, rfl, by simp [Nrm]⟩, Sl.nil _ _⟩
  · refine ⟨ws, h10, some ⟨b, 0, none⟩, c, by simp [h4], by simpa [h4] using h5, fun _ => ⟨b, 0, rfl, h8.lt, fun i hi => ?_⟩⟩
    have hi' : i < n := by simpa [h4] using hi
    rw [Nat.zero_add, h8.cell i (by omega), ← h9, List.getD_eq_getElem?_getD, List.getD_eq_getElem?_getD, List.getElem?_take, if_pos hi']
/-- room that is there is used again -/
theorem make_in (b m c n : Nat) (w : World) (h : n ≤ c) : Calls Tryz.prog 54 #[.slice (some ⟨b, 0, none⟩) m c, .int .i64 (n : Int)] w fun e w' => e = .returned (.slice (some ⟨b, 0, none⟩) n c) ∧ w = w' := by
  have h1 : (n : Int) ≤ (c : Int) := by omega
  have h0 : (0 : Int) ≤ (n : Int) := by omega
  go_enter Tryz.func54, Tryz.ntmps54
  go_wp2_with fail
  go_ret
  exact ⟨rfl, rfl⟩
theorem make_out (b m c n : Nat) (w : World) (h : c < n) (h1 : 1 < n) (hn : n ≤ 1048576) : Calls Tryz.prog 54 #[.slice (some ⟨b, 0, none⟩) m c, .int .i64 (n : Int)] w fun e w' => e = .returned (.slice (some ⟨w.heap.size, 0, none⟩) n (n + 4)) ∧ w' = w.alloc (.cells (zs (.int .u64 0) (n + 4)).toArray 79) := by
  have hmk := fun w => run_mk (P := Tryz.prog) 53 79 (.int .u64 0) 8 Tryz.underlying53 infoW rfl n (n + 4) (by omega) (by omega) (by omega) w
  have e4 : ((n + 4 : Nat) : Int) = (n : Int) + 4 := by omega
  rw [e4] at hmk
  clear e4
  have hne : ((n : Int) == 1) = false := by simp; omega
  have hgt : ¬ (n : Int) ≤ (c : Int) := by omega
  go_enter Tryz.func54, Tryz.ntmps54
  go_wp2_with fail
  go_ret
  exact ⟨rfl, rfl⟩
theorem setWordN_any (m : Nat) (w : World) (h0 : m ≠ 0) (hm : m < 18446744073709551616) : Calls Tryz.prog 61 #[.slice none 0 0, .int .u64 (m : Int)] w fun e w' => ∃ (c : Nat) (L : List Value), 1 ≤ c ∧ c ≤ 5 ∧ L.length = c ∧ L.getD 0 undef = .int .u64 (m : Int) ∧ e = .returned (.slice (some ⟨w.heap.size, 0, none⟩) 1 c) ∧ w' = w.alloc (.cells L.toArray 79) := by
  have C := Lib.hid (make_any 1 w (by omega) (by omega))
  have hne : ((m : Int) == 0) = false := by simp; omega
  unfold MakePost at C
  clear h0 hm
  go_enter Tryz.func61, Tryz.ntmps61
  go_wp2_with fail
  refine C.out.mono ?_
  rintro e w1 ⟨c, hc1, hc2, rfl, rfl⟩
  have hk := Blk.new w 79 (zs (.int .u64 0) c)
  have c0 := hk.cell 0 (by rw [zs_length]; omega)
  have f0 := hk.free 0
  have l0 := hk.lt
  generalize (zs (Value.int IntKind.u64 0) c).getD 0 undef = cv at *
  clear hk C
  generalize har : (zs (Value.int IntKind.u64 0) c).toArray = ar at *
  have HA := Lib.hid har.symm
  clear har
  go_wp2_with fail
  go_ret
  refine ⟨c, (zs (Value.int IntKind.u64 0) c).set 0 (.int .u64 (m : Int)), hc1, by omega, by simp [zs], ?_, rfl, by rw [HA.out]; simp⟩
  obtain ⟨d, rfl⟩ : ∃ d, c = d + 1 := ⟨c - 1, by omega⟩
  simp [zs, List.replicate_succ]
def MwPost (M H : Nat) (w : World) (e : Ending) (w' : World) : Prop := ∃ v, e = .returned v ∧ OwnN w' H v M ∧ Below H w w'
theorem setWord_zero (a : Option Addr) (n c : Nat) (w : World) : Calls Tryz.prog 61 #[.slice a n c, .int .u64 0] w fun e w' => e = .returned (.slice a 0 c) ∧ w = w' := by
  have h0 : (0 : Int) ≤ (c : Int) := by omega
  go_enter Tryz.func61, Tryz.ntmps61
  go_wp2_with fail
  go_ret
  exact ⟨rfl, rfl⟩
theorem mulAddWW_nil (y r H : Nat) (w : World) (hr : r < 18446744073709551616) (hH : H ≤ w.heap.size) :
    Calls Tryz.prog 93 #[.slice none 0 0, .slice none 0 0, .int .u64 y, .int .u64 r] w (MwPost r H w) := by
  rcases Nat.eq_zero_or_pos r with rfl | hpos
  · have C := Lib.hid (setWord_zero none 0 0 w)
    simp only [Int.natCast_zero] at *
    go_enter Tryz.func93, Tryz.ntmps93
    go_wp2_with fail
    refine C.out.mono ?_
    rintro e w' ⟨rfl, rfl⟩
    go_wp2_with fail
    go_ret
    exact ⟨_, rfl, .inl ⟨rfl, rfl⟩, Below.refl _ _⟩
  · have C := Lib.hid (setWordN_any r w (by omega) hr)
    have HR := Lib.hid hr
    have HP := Lib.hid hpos
    have HH := Lib.hid hH
    clear hr hpos hH
    go_enter Tryz.func93, Tryz.ntmps93
    go_wp2_with fail
    refine C.out.mono ?_
    rintro e w' ⟨c, L, hc1, hc5, hL, hL0, rfl, rfl⟩
    have F : Hid (MwPost r H w (.returned (.slice (some ⟨w.heap.size, 0, none⟩) 1 c)) (w.alloc (.cells L.toArray 79))) := Lib.hid ⟨_, rfl, .inr ⟨_, 1, c, [r], L, rfl, HH.out, by omega, rfl, hc1, by omega, hL, Blk.new w _ L, by
      cases L with
      | nil => simp at hL; omega
      | cons u L => simp at hL0; subst hL0; simp [wv], rep_one r HR.out (by have := HP.out; omega)⟩, ((Below.refl _ _).mono HH.out).alloc HH.out _⟩
    clear hc1 hc5 hL hL0 C
    go_wp2_with fail
    go_ret
    exact F.out
theorem splice_len0 (L D : List Value) (h : D.length ≤ L.length) : (splice L 0 D).length = L.length := length_splice _ _ _ (by omega)
theorem splice_ge (L D : List Value) (i : Nat) (h : D.length ≤ i) (hL : D.length ≤ L.length) : (splice L 0 D).getD i undef = L.getD i undef := by
  unfold splice
  rw [List.take_zero, List.nil_append, Nat.zero_add, List.getD_eq_getElem?_getD, List.getD_eq_getElem?_getD, List.getElem?_append_right h, List.getElem?_drop]
  congr 2
  omega
theorem splice_lt (L D : List Value) (i : Nat) (h : i < D.length) : (splice L 0 D).getD i undef = D.getD i undef := by
  unfold splice
  rw [List.take_zero, List.nil_append, List.getD_eq_getElem?_getD, List.getD_eq_getElem?_getD, List.getElem?_append_left h]
theorem splice_take (L D : List Value) : (splice L 0 D).take D.length = D := by
  unfold splice
  rw [List.take_zero, List.nil_append, List.take_left']
  rfl
/-- the digits of a number and their carry are its digits -/
theorem dgs_top (n P : Nat) (h : P < 18446744073709551616 ^ (n + 1)) : dgs 18446744073709551616 n P ++ [P / 18446744073709551616 ^ n] = dgs 18446744073709551616 (n + 1) P := by
  have h2 : P / 18446744073709551616 ^ n < 18446744073709551616 := by
    rw [Nat.div_lt_iff_lt_mul (Nat.pow_pos (by omega)), Nat.mul_comm, ← Nat.pow_succ]; exact h
  rw [dgs_snoc, Nat.mod_eq_of_lt h2]
theorem mul_lt_words {n m y r : Nat} (hm : m < 18446744073709551616 ^ n) (hy : y < 18446744073709551616) (hr : r < 18446744073709551616) : m * y + r < 18446744073709551616 ^ (n + 1) := by
  rw [Nat.pow_succ]
  generalize 18446744073709551616 ^ n = P at *
  have h1 : m * y ≤ (P - 1) * 18446744073709551615 := Nat.mul_le_mul (by omega) (by omega)
  obtain ⟨Q, rfl⟩ : ∃ Q, P = Q + 1 := ⟨P - 1, by omega⟩
  rw [Nat.add_sub_cancel] at h1
  omega
/-- a row of n + 1 words that has been made, its leading zeros struck -/
theorem mw_fin {w W : World} {H b n c P : Nat} {L : List Value} (hH : H ≤ b) (hc : n + 1 ≤ c) (hc2 : c ≤ 1048576) (hL : L.length = c) (hk : Blk W b 79 (splice L 0 ((dgs 18446744073709551616 (n + 1) P).map wv))) (hP : P < 18446744073709551616 ^ (n + 1)) (hP0 : P ≠ 0) (hb : Below H w W) :
    MwPost P H w (.returned (.slice (some ⟨b, 0, none⟩) (strip (dgs 18446744073709551616 (n + 1) P)).length c)) W := by
  have hrep := strip_rep 18446744073709551616 (dgs 18446744073709551616 (n + 1) P) (dgs_lt _ (by omega) _ _)
  rw [dgs_val_of _ _ _ hP] at hrep
  have hsl := strip_length (dgs 18446744073709551616 (n + 1) P)
  rw [dgs_length] at hsl
  have hne : strip (dgs 18446744073709551616 (n + 1) P) ≠ [] := by
    intro e
    exact hP0 ((hrep.pos_iff (by omega)).1 e)
  refine ⟨_, rfl, .inr ⟨b, _, c, strip (dgs 18446744073709551616 (n + 1) P), _, rfl, hH, List.length_pos_iff.2 hne, rfl, by omega, hc2, ?_, hk, ?_, hrep⟩, hb⟩
  · rw [splice_len0 _ _ (by rw [List.length_map, dgs_length]; omega), hL]
  · have e1 := splice_take L ((dgs 18446744073709551616 (n + 1) P).map wv)
    rw [List.length_map, dgs_length] at e1
    have e2 : (splice L 0 ((dgs 18446744073709551616 (n + 1) P).map wv)).take (strip (dgs 18446744073709551616 (n + 1) P)).length = ((splice L 0 ((dgs 18446744073709551616 (n + 1) P).map wv)).take (n + 1)).take (strip (dgs 18446744073709551616 (n + 1) P)).length := by
      rw [List.take_take, Nat.min_eq_left hsl]
    rw [e2, e1, ← List.map_take, ← strip_take]
set_option maxHeartbeats 3200000 in
theorem mulAddWW_some (m y r H b n c : Nat) (ws : List Nat) (L : List Value) (w : World) (hH : H ≤ b) (hn0 : 0 < n) (hws : ws.length = n) (hnc : n ≤ c) (hc : c ≤ 1048576) (hL : L.length = c) (hk : Blk w b 79 L) (htk : L.take n = ws.map wv) (hrep : Rep 18446744073709551616 ws m)
    (hm : n ≤ 1000) (hy0 : 0 < y) (hy : y < 18446744073709551616) (hr : r < 18446744073709551616) :
    Calls Tryz.prog 93 #[.slice (some ⟨b, 0, none⟩) n c, .slice (some ⟨b, 0, none⟩) n c, .int .u64 y, .int .u64 r] w (MwPost (m * y + r) H w) := by
  obtain ⟨P, hPe⟩ : ∃ P, P = m * y + r := ⟨_, rfl⟩
  rw [← hPe]
  have hmv := hrep.val_lt
  rw [hws] at hmv
  have hP : P < 18446744073709551616 ^ (n + 1) := by rw [hPe]; exact mul_lt_words hmv hy hr
  have hm0 : m ≠ 0 := by
    intro h
    have := (hrep.pos_iff (by omega)).2 h
    rw [this] at hws; simp at hws; omega
  have hP0 : P ≠ 0 := by
    have := Nat.mul_pos (show 0 < m by omega) hy0
    omega
  have hval := hrep.val
  have hwsn : ∀ k, k < n → L.getD k undef = .int .u64 ((ws.getD k 0 : Nat) : Int) := by
    intro k hkn
    have e : (L.take n).getD k undef = (ws.map wv).getD k undef := by rw [htk]
    rw [getD_map_wv ws k (by omega)] at e
    rw [← e, List.getD_eq_getElem?_getD, List.getD_eq_getElem?_getD, List.getElem?_take, if_pos hkn]
  have hqq : ((P / 18446744073709551616 ^ n : Nat) : Int) = ((P / 18446744073709551616 ^ n : Nat) : Int) := rfl
  by_cases hroom : n + 1 ≤ c
  · have CM := Lib.hid (fun W => make_in b n c (n + 1) W hroom)
    have CV : Hid (Calls Tryz.prog 107 #[.slice (some ⟨b, 0, none⟩) n c, .slice (some ⟨b, 0, none⟩) n c, .int .u64 y, .int .u64 r] w (VecPost b (splice L 0 ((dgs 18446744073709551616 n P).map wv)) (P / 18446744073709551616 ^ n) w)) := Lib.hid (by
      have h := mulAddVWW_any ws y r L b 0 n c c (some ⟨b, 0, none⟩) w hws hnc hrep.lt hy hr hk (by omega) (by omega) (fun _ => ⟨b, 0, rfl, fun wr k hkn hb hu => by
        refine ⟨?_, hb.lt⟩
        have hD : ((dgs 18446744073709551616 k (mulK ws y r k)).map wv).length = k := by simp [dgs_length]
        rw [Nat.zero_add, hb.cell k (by rw [splice_len0 _ _ (by omega)]; omega), splice_ge _ _ _ (by omega) (by omega), hwsn k hkn]⟩)
      rw [hval, ← hPe] at h
      exact h)
    have SET : ∀ W : World, Blk W b 79 (splice L 0 ((dgs 18446744073709551616 n P).map wv)) → Blk (W.setCell ⟨b, n, none⟩ (.int .u64 ((P / 18446744073709551616 ^ n : Nat) : Int))) b 79 (splice L 0 ((dgs 18446744073709551616 (n + 1) P).map wv)) := by
      intro W h
      have h2 := h.set n (wv (P / 18446744073709551616 ^ n))
      have e := splice_set L 0 n ((dgs 18446744073709551616 n P).map wv) (wv (P / 18446744073709551616 ^ n)) (by simp [dgs_length]) (by omega)
      rw [Nat.zero_add] at e
      have e2 : (dgs 18446744073709551616 n P).map wv ++ [wv (P / 18446744073709551616 ^ n)] = (dgs 18446744073709551616 (n + 1) P).map wv := by rw [← dgs_top n P hP]; simp
      rw [e2] at e
      rw [e] at h2
      exact h2
    have HSET := Lib.hid SET
    have CN : Hid (∀ W : World, Blk W b 79 (splice L 0 ((dgs 18446744073709551616 (n + 1) P).map wv)) → Calls Tryz.prog 56 #[.slice (some ⟨b, 0, none⟩) (n + 1) c] W (NormPost (some ⟨b, 0, none⟩) (strip (dgs 18446744073709551616 (n + 1) P)).length c W)) := Lib.hid (fun W h => by
      have h2 := norm_any (dgs 18446744073709551616 (n + 1) P) (some ⟨b, 0, none⟩) c W.heap.size W (by
        rw [dgs_length]
        exact h.sl 0 _ (n + 1) c W.heap.size (by simp [dgs_length]) (by rw [splice_len0 _ _ (by rw [List.length_map, dgs_length]; omega)]; omega) (fun i hi => by rw [Nat.zero_add, splice_lt _ _ _ (by rw [List.length_map, dgs_length]; omega)]) hroom h.lt) (dgs_lt _ (by omega) _ _) (by rw [dgs_length]; omega)
      rw [dgs_length] at h2
      exact h2)
    have FIN : Hid (∀ W : World, Blk W b 79 (splice L 0 ((dgs 18446744073709551616 (n + 1) P).map wv)) → Below H w W → MwPost P H w (.returned (.slice (some ⟨b, 0, none⟩) (strip (dgs 18446744073709551616 (n + 1) P)).length c)) W) := Lib.hid (fun W h hb => mw_fin hH hroom hc hL h hP hP0 hb)
    have LEN : Hid ((splice L 0 ((dgs 18446744073709551616 n P).map wv)).length = c) := Lib.hid (by rw [splice_len0 _ _ (by rw [List.length_map, dgs_length]; omega), hL])
    have HHb := Lib.hid hH
    have hlb := hk.lt
    have hq : P / 18446744073709551616 ^ n < 18446744073709551616 := by
      rw [Nat.div_lt_iff_lt_mul (Nat.pow_pos (by omega)), Nat.mul_comm, ← Nat.pow_succ]; exact hP
    have hn1 : (0 : Int) ≤ (n : Int) := by omega
    have hn2 : (n : Int) < (n : Int) + 1 := by omega
    have hn3 : (n : Int) ≤ (c : Int) := by omega
    have hn4 : (n : Int) + 1 ≤ (c : Int) := by omega
    have hne : ((n : Int) == 0) = false := by simp; omega
    have hye : ((y : Int) == 0) = false := by simp; omega
    generalize P / 18446744073709551616 ^ n = q at *
    generalize (strip (dgs 18446744073709551616 (n + 1) P)).length = s at *
    generalize splice L 0 ((dgs 18446744073709551616 (n + 1) P).map wv) = L2 at *
    generalize splice L 0 ((dgs 18446744073709551616 n P).map wv) = L1 at *
    clear hPe hP hP0 hrep hk htk hval hwsn hqq SET hmv hm0 hws hL
    go_enter Tryz.func93, Tryz.ntmps93
    go_wp2_with fail
    refine (CM.out _).mono ?_
    rintro e w' ⟨rfl, rfl⟩
    clear CM
    go_wp2_with fail
    refine CV.out.mono ?_
    rintro e w1 ⟨rfl, hk1, hu1⟩
    have c1 := hk1.cell n (by rw [LEN.out]; omega)
    have f1 := hk1.free n
    have lt1 := hk1.lt
    have hk2 := HSET.out w1 hk1
    have CN2 := Lib.hid (CN.out _ hk2)
    have F : Hid (MwPost P H w (.returned (.slice (some ⟨b, 0, none⟩) s c)) (w1.setCell ⟨b, n, none⟩ (.int .u64 (q : Int)))) := Lib.hid (FIN.out _ hk2 ((Up.below (r := some b) hu1 (Nat.le_of_lt (Nat.lt_of_le_of_lt HHb.out hlb)) (fun j hj => by injection hj with hj; have := HHb.out; omega)).setCell (p := ⟨b, n, none⟩) HHb.out _))
    generalize L1.getD n undef = cv at *
    clear hk1 hu1 hk2 CN CV FIN HSET LEN
    go_wp2_with fail
    refine CN2.out.mono ?_
    rintro e w2 ⟨rfl, rfl⟩
    clear CN2
    go_wp2_with fail
    go_ret
    exact F.out
  · have CM := Lib.hid (make_out b n c (n + 1) w (by omega) (by omega) (by omega))
    obtain ⟨w1, hw1⟩ : ∃ w1, w1 = w.alloc (.cells (zs (.int .u64 0) (n + 1 + 4)).toArray 79) := ⟨_, rfl⟩
    have hkg : Blk w1 w.heap.size 79 (zs (.int .u64 0) (n + 1 + 4)) := by rw [hw1]; exact Blk.new w _ _
    have hb1 : Below w.heap.size w w1 := by rw [hw1]; exact (Below.refl _ _).alloc (Nat.le_refl _) _
    have hkb := hk.below hb1 hk.lt
    have hzl : (zs (Value.int IntKind.u64 0) (n + 1 + 4)).length = n + 1 + 4 := zs_length _ _
    have hbg : b ≠ w.heap.size := by have := hk.lt; omega
    have hroom2 : n + 1 ≤ n + 1 + 4 := by omega
    have hHw : H ≤ w.heap.size := by have := hk.lt; omega
    rw [← hw1] at CM
    have CV : Hid (Calls Tryz.prog 107 #[.slice (some ⟨w.heap.size, 0, none⟩) n (n + 1 + 4), .slice (some ⟨b, 0, none⟩) n c, .int .u64 y, .int .u64 r] w1 (VecPost w.heap.size (splice (zs (.int .u64 0) (n + 1 + 4)) 0 ((dgs 18446744073709551616 n P).map wv)) (P / 18446744073709551616 ^ n) w1)) := Lib.hid (by
      have h := mulAddVWW_any ws y r (zs (.int .u64 0) (n + 1 + 4)) w.heap.size 0 n (n + 1 + 4) c (some ⟨b, 0, none⟩) w1 hws hnc hrep.lt hy hr hkg (by omega) (by omega) (fun _ => ⟨b, 0, rfl, fun wr k hkn hb hu => by
        have hkr := hkb.up hu (by intro e; injection e with e; exact hbg e)
        refine ⟨?_, hkr.lt⟩
        rw [Nat.zero_add, hkr.cell k (by omega), hwsn k hkn]⟩)
      rw [hval, ← hPe] at h
      exact h)
    have SET : ∀ W : World, Blk W w.heap.size 79 (splice (zs (.int .u64 0) (n + 1 + 4)) 0 ((dgs 18446744073709551616 n P).map wv)) → Blk (W.setCell ⟨w.heap.size, n, none⟩ (.int .u64 ((P / 18446744073709551616 ^ n : Nat) : Int))) w.heap.size 79 (splice (zs (.int .u64 0) (n + 1 + 4)) 0 ((dgs 18446744073709551616 (n + 1) P).map wv)) := by
      intro W h
      have h2 := h.set n (wv (P / 18446744073709551616 ^ n))
      have e := splice_set (zs (.int .u64 0) (n + 1 + 4)) 0 n ((dgs 18446744073709551616 n P).map wv) (wv (P / 18446744073709551616 ^ n)) (by simp [dgs_length]) (by omega)
      rw [Nat.zero_add] at e
      have e2 : (dgs 18446744073709551616 n P).map wv ++ [wv (P / 18446744073709551616 ^ n)] = (dgs 18446744073709551616 (n + 1) P).map wv := by rw [← dgs_top n P hP]; simp
      rw [e2] at e
      rw [e] at h2
      exact h2
    have HSET := Lib.hid SET
    have CN : Hid (∀ W : World, Blk W w.heap.size 79 (splice (zs (.int .u64 0) (n + 1 + 4)) 0 ((dgs 18446744073709551616 (n + 1) P).map wv)) → Calls Tryz.prog 56 #[.slice (some ⟨w.heap.size, 0, none⟩) (n + 1) (n + 1 + 4)] W (NormPost (some ⟨w.heap.size, 0, none⟩) (strip (dgs 18446744073709551616 (n + 1) P)).length (n + 1 + 4) W)) := Lib.hid (fun W h => by
      have h2 := norm_any (dgs 18446744073709551616 (n + 1) P) (some ⟨w.heap.size, 0, none⟩) (n + 1 + 4) W.heap.size W (by
        rw [dgs_length]
        exact h.sl 0 _ (n + 1) (n + 1 + 4) W.heap.size (by simp [dgs_length]) (by rw [splice_len0 _ _ (by rw [List.length_map, dgs_length]; omega)]; omega) (fun i hi => by rw [Nat.zero_add, splice_lt _ _ _ (by rw [List.length_map, dgs_length]; omega)]) hroom2 h.lt) (dgs_lt _ (by omega) _ _) (by rw [dgs_length]; omega)
      rw [dgs_length] at h2
      exact h2)
    have FIN : Hid (∀ W : World, Blk W w.heap.size 79 (splice (zs (.int .u64 0) (n + 1 + 4)) 0 ((dgs 18446744073709551616 (n + 1) P).map wv)) → Below H w W → MwPost P H w (.returned (.slice (some ⟨w.heap.size, 0, none⟩) (strip (dgs 18446744073709551616 (n + 1) P)).length (n + 1 + 4))) W) := Lib.hid (fun W h hb => mw_fin hHw hroom2 (by omega) hzl h hP hP0 hb)
    have LEN : Hid ((splice (zs (.int .u64 0) (n + 1 + 4)) 0 ((dgs 18446744073709551616 n P).map wv)).length = n + 1 + 4) := Lib.hid (by rw [splice_len0 _ _ (by rw [List.length_map, dgs_length]; omega), hzl])
    have HHb := Lib.hid hHw
    have HB1 := Lib.hid hb1
    have hlb := hk.lt
    have hlg := hkg.lt
    have hq : P / 18446744073709551616 ^ n < 18446744073709551616 := by
      rw [Nat.div_lt_iff_lt_mul (Nat.pow_pos (by omega)), Nat.mul_comm, ← Nat.pow_succ]; exact hP
    have hn1 : (0 : Int) ≤ (n : Int) := by omega
    have hn2 : (n : Int) < (n : Int) + 1 := by omega
    have hn3 : (n : Int) ≤ (n : Int) + 1 + 4 := by omega
    have hn4 : ¬ (n : Int) + 1 ≤ (c : Int) := by omega
    have hne : ((n : Int) == 0) = false := by simp; omega
    have hye : ((y : Int) == 0) = false := by simp; omega
    generalize P / 18446744073709551616 ^ n = q at *
    generalize (strip (dgs 18446744073709551616 (n + 1) P)).length = s at *
    generalize splice (zs (.int .u64 0) (n + 1 + 4)) 0 ((dgs 18446744073709551616 (n + 1) P).map wv) = L2 at *
    generalize splice (zs (.int .u64 0) (n + 1 + 4)) 0 ((dgs 18446744073709551616 n P).map wv) = L1 at *
    clear hPe hP hP0 hrep hk htk hval hwsn hqq SET hmv hm0 hws hL hkg hkb hzl hb1
    go_enter Tryz.func93, Tryz.ntmps93
    go_wp2_with fail
    refine CM.out.mono ?_
    rintro e w' ⟨rfl, rfl⟩
    clear CM hw1
    go_wp2_with fail
    refine CV.out.mono ?_
    rintro e w3 ⟨rfl, hk1, hu1⟩
    have c1 := hk1.cell n (by rw [LEN.out]; omega)
    have f1 := hk1.free n
    have lt1 := hk1.lt
    have hk2 := HSET.out w3 hk1
    have CN2 := Lib.hid (CN.out _ hk2)
    have F : Hid (MwPost P H w (.returned (.slice (some ⟨w.heap.size, 0, none⟩) s (n + 1 + 4))) (w3.setCell ⟨w.heap.size, n, none⟩ (.int .u64 (q : Int)))) := Lib.hid (FIN.out _ hk2 (((HB1.out.trans (Up.below (r := some w.heap.size) hu1 HB1.out.size (fun j hj => by injection hj with hj; omega))).mono HHb.out).setCell (p := ⟨w.heap.size, n, none⟩) HHb.out _))
    generalize L1.getD n undef = cv at *
    clear hk1 hu1 hk2 CN CV FIN HSET LEN
    go_wp2_with fail
    refine CN2.out.mono ?_
    rintro e w2 ⟨rfl, rfl⟩
    clear CN2
    go_wp2_with fail
    go_ret
    exact F.out
theorem mulAddWW_own (m y r H : Nat) (v : Value) (w : World) (hv : OwnN w H v m) (hm : m < lim) (hH : H ≤ w.heap.size) (hy0 : 0 < y) (hy : y < 18446744073709551616) (hr : r < 18446744073709551616) :
    Calls Tryz.prog 93 #[v, v, .int .u64 y, .int .u64 r] w (MwPost (m * y + r) H w) := by
  rcases hv with ⟨rfl, rfl⟩ | ⟨b, n, c, ws, L, rfl, h2, h3, h4, h5, h6, h7, h8, h9, h10⟩
  · rw [Nat.zero_mul, Nat.zero_add]
    exact mulAddWW_nil y r H w hr hH
  · have hl := h10.words_le hm
    exact mulAddWW_some m y r H b n c ws L w h2 h3 h4 h5 h6 h7 h8 h9 h10 (by omega) hy0 hy hr
end Go.Proofs.YtpcnmgldmnncoaaGreatDoor
