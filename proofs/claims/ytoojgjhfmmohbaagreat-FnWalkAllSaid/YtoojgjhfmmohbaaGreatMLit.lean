/- A float's word that is finite and without a sign: it is not below 0, not above the greatest number. No function of the program. (*big.Int).IsInt64, math.Signbit; maker.literal. maker.literal. maker.literal at an integer, and at any literal. -/
import Derived.Test.YtoojgjhfmmohbaaGreatMBase
import Derived.Test.YtoojgjhfmmohbaaGreatProg
import Derived.Test.YtoojgjhfmmohbaaGreatWkMk3
import Derived.Test.YtoojgjhfmmohbaaGreatMWhole
import Derived.RegionTactic
import Derived.BigRegion
namespace Go.Proofs.YtoojgjhfmmohbaaGreat
open Go.RowKit
set_option linter.unusedVariables false
set_option linter.unusedSimpArgs false
theorem signed_false (m k : Nat) : Ieee.signed false m k = ((m * 2 ^ k : Nat) : Int) := by
 unfold Ieee.signed
 rw [if_neg (by decide), Nat.shiftLeft_eq]
theorem cmp_nat (a b : Nat) : compare (a : Int) (b : Int) = if a < b then .lt else if a = b then .eq else .gt := by
 show compareOfLessAndEq (a : Int) (b : Int) = _
 unfold compareOfLessAndEq
 by_cases h1 : a < b
 · rw [if_pos (by omega), if_pos h1]
 · rw [if_neg (by omega), if_neg h1]
   by_cases h2 : a = b
   · rw [if_pos (by omega), if_pos h2]
   · rw [if_neg (by omega), if_neg h2]
theorem read_fin (n : Nat) (h : n < 9218868437227405312) : ∃ m k : Nat, Ieee.double.read n = .number false m (Ieee.double.leastPlace + (k : Int)) ∧ m ≤ 9007199254740991 ∧ k ≤ 2045 := by
 have e1 : Ieee.double.signWeight = 9223372036854775808 := by decide
 have e2 : Ieee.double.binade = 4503599627370496 := by decide
 have e3 : Ieee.double.infRung = 9218868437227405312 := by decide
 have hd : n / Ieee.double.signWeight = 0 := by rw [e1]; omega
 have hm : n % Ieee.double.signWeight = n := by rw [e1]; omega
 unfold Ieee.Format.read
 simp only [hd, hm]
 rw [e2, e3]
 by_cases h1 : n < 4503599627370496
 · rw [if_pos h1]
   exact ⟨n, 0, by simp, by omega, by omega⟩
 · rw [if_neg h1, if_pos h]
   exact ⟨4503599627370496 + n % 4503599627370496, n / 4503599627370496 - 1, rfl, by omega, by omega⟩
theorem order_fin (m k m' k' : Nat) (P : Int) : Ieee.Datum.order (.number false m (P + (k : Int))) (.number false m' (P + (k' : Int))) = some (compare ((m * 2 ^ (k - min k k') : Nat) : Int) ((m' * 2 ^ (k' - min k k') : Nat) : Int)) := by
 unfold Ieee.Datum.order
 simp only [signed_false]
 rw [show (P + (k : Int) - min (P + (k : Int)) (P + (k' : Int))).toNat = k - min k k' by omega, show (P + (k' : Int) - min (P + (k : Int)) (P + (k' : Int))).toNat = k' - min k k' by omega]
theorem flt_not_below (n : Nat) (h : n < 9218868437227405312) : (FloatKind.f64.format.order n 0 == some .gt || FloatKind.f64.format.order n 0 == some .eq) = true := by
 obtain ⟨m, k, hr, _, _⟩ := read_fin n h
 have h0 : Ieee.double.read 0 = .number false 0 (Ieee.double.leastPlace + ((0 : Nat) : Int)) := by decide
 have e : FloatKind.f64.format.order n 0 = some (compare ((m * 2 ^ (k - min k 0) : Nat) : Int) ((0 * 2 ^ (0 - min k 0) : Nat) : Int)) := by
   show Ieee.double.order n 0 = _
   unfold Ieee.Format.order
   rw [hr, h0, order_fin]
 rw [e, cmp_nat]
 generalize m * 2 ^ (k - min k 0) = x
 rw [Nat.zero_mul, if_neg (by omega)]
 by_cases hx : x = 0
 · rw [if_pos hx]; rfl
 · rw [if_neg hx]; rfl
theorem flt_not_above (n : Nat) (h : n < 9218868437227405312) : (FloatKind.f64.format.order n 9218868437227405311 == some .lt || FloatKind.f64.format.order n 9218868437227405311 == some .eq) = true := by
 obtain ⟨m, k, hr, hm, hk⟩ := read_fin n h
 obtain ⟨D, hD⟩ : ∃ D : Nat, D = 9007199254740991 := ⟨_, rfl⟩
 obtain ⟨K, hK⟩ : ∃ K : Nat, K = 2045 := ⟨_, rfl⟩
 have h0 : Ieee.double.read 9218868437227405311 = .number false D (Ieee.double.leastPlace + (K : Int)) := by rw [hD, hK]; decide
 rw [← hD] at hm
 rw [← hK] at hk
 have e : FloatKind.f64.format.order n 9218868437227405311 = some (compare ((m * 2 ^ (k - min k K) : Nat) : Int) ((D * 2 ^ (K - min k K) : Nat) : Int)) := by
   show Ieee.double.order n 9218868437227405311 = _
   unfold Ieee.Format.order
   rw [hr, h0, order_fin]
 have hle : m * 2 ^ (k - min k K) ≤ D * 2 ^ (K - min k K) := Nat.mul_le_mul hm (Nat.pow_le_pow_right (by omega) (by omega))
 rw [e, cmp_nat]
 generalize m * 2 ^ (k - min k K) = x at *
 generalize D * 2 ^ (K - min k K) = y at *
 by_cases hx : x < y
 · rw [if_pos hx]; rfl
 · rw [if_neg hx, if_pos (by omega)]; rfl
end Go.Proofs.YtoojgjhfmmohbaaGreat
namespace Go.Proofs.YtoojgjhfmmohbaaGreat
open Go.RowKit Dig
set_option linter.unusedVariables false
set_option linter.unusedSimpArgs false
set_option maxRecDepth 100000
theorem frombitsW (n : Int) (w : World) : (callFunc 56 #[.int .u64 n]).run Tryz.prog w = .ok (.value (.float .f64 n.toNat)) w := by kernel_rfl
theorem tobitsW (n : Nat) (w : World) : (callFunc 63 #[.float .f64 n]).run Tryz.prog w = .ok (.value (.int .u64 (n : Int))) w := by kernel_rfl
theorem bytes_of_ok (ms : List Nat) (hb : ∀ x ∈ ms, x < 256) (h : ms = [] ∨ ms[0]? ≠ some 0) : Bytes ms (bval ms) := by
 have := cut_bytes ms hb 0 (Nat.zero_le _) (fun i hi => by omega) (by
   cases ms with
   | nil => left; rfl
   | cons x l =>
     right
     rcases h with h | h
     · cases h
     · simpa using h)
 simpa using this
theorem one_word {xs : List Nat} {m : Nat} (h : Rep 18446744073709551616 xs (m : Int).natAbs) (hl : xs.length ≤ 1) : m < 18446744073709551616 := by
 match xs, hl, h with
 | [], _, h =>
   have := h.val
   simp only [nval, Int.natAbs_natCast] at this
   omega
 | [x], _, h =>
   have h1 := h.val
   have h2 := h.lt x (by simp)
   simp only [nval, Int.natAbs_natCast, Nat.mul_zero, Nat.add_zero] at h1
   omega
theorem wrap_pos (x : Int) (h0 : 0 ≤ x) (h1 : x < 18446744073709551616) (h : 0 ≤ wrap64 x) : x < 9223372036854775808 := by
 unfold wrap64 at h
 omega
def I64Post (m : Nat) (w : World) (e : Ending) (w' : World) : Prop := ∃ b : Bool, e = .returned (.bool b) ∧ (b = true → m < 9223372036854775808) ∧ w = w'
set_option maxHeartbeats 1600000 in
theorem isInt64_any (p : Option Addr) (m : Nat) (w : World) (h : Bg w w.heap.size p (m : Int)) : Calls Tryz.prog 54 #[.pointer p] w (I64Post m w) := by
 obtain ⟨b, abs, rfl, hb, hk, hn⟩ := h
 have x0 : w.cell? ⟨b, 0, none⟩ = some (.bool false) := by have := hk.cell 0 (by simp); rwa [show decide ((m : Int) < 0) = false by simp] at this
 have x1 : w.cell? ⟨b, 1, none⟩ = some abs := hk.cell 1 (by simp)
 have hn2 := hn
 obtain ⟨xs, hrep, a, c, rfl, hc, hr⟩ := hn
 simp only [List.length_map] at x1 hc hn2
 have hbl := hk.lt
 by_cases hl : xs.length ≤ 1
 · have hm : m < 18446744073709551616 := one_word hrep hl
   have CORE := Li (low64_any m _ w (by simpa using hn2) hm)
   have hl2 : decide ((xs.length : Int) ≤ 1) = true := decide_eq_true (by omega)
   have FIN : Hid (∀ c : Bool, (c = true → m < 9223372036854775808) → I64Post m w (.returned (.bool c)) w) := Li (fun c h => ⟨c, rfl, h, rfl⟩)
   clear hk hn2 hr hrep hl
   obtain ⟨x, hx⟩ : ∃ x : Int, x = (m : Int) := ⟨_, rfl⟩
   have HM : Hid (0 ≤ x ∧ x < 18446744073709551616 ∧ x = (m : Int)) := Li ⟨by omega, by omega, hx⟩
   rw [← hx] at CORE
   clear hm hx
   go_enter Tryz.func54, Tryz.ntmps54
   go_wp2_with fail
   refine CORE.out.mono ?_
   rintro e w' ⟨rfl, rfl⟩
   go_wp2_with fail
   all_goals
     go_ret
     refine FIN.out _ ?_
     intro h
     have h4 : 0 ≤ wrap64 x := by first | assumption | exact of_decide_eq_true h
     have h6 := wrap_pos x HM.out.1 HM.out.2.1 h4
     rw [HM.out.2.2] at h6
     exact Int.ofNat_lt.1 h6
 · have FINF : Hid (I64Post m w (.returned (.bool false)) w) := Li ⟨false, rfl, fun h => by simp at h, rfl⟩
   have hl2 : decide ((xs.length : Int) ≤ 1) = false := decide_eq_false (by omega)
   clear hk hn2 hr hrep hl
   go_enter Tryz.func54, Tryz.ntmps54
   go_wp2_with fail
   go_ret
   exact FINF.out
theorem signbit_any (n : Nat) (w : World) (h : n < 9223372036854775808) : Calls Tryz.prog 57 #[.float .f64 n] w fun e w' => e = .returned (.bool false) ∧ w = w' := by
 have hf := tobitsW
 go_enter Tryz.func57, Tryz.ntmps57
 go_wp2_with fail
 go_ret
 exact ⟨rfl, rfl⟩
theorem lit_fin {H bm bi bf q xb : Nat} {w w' : World} {L : List Value} (hs : Stp w.heap.size w w' bm bi bf bi bf) (hm : MK w' H bm bi bf q) (hx : Blk w' xb 190 L) (hxb : w.heap.size ≤ xb) (h1 : bi < w.heap.size) (h2 : bf < w.heap.size) :
   MPost H bm bi bf q 1 [] w (.returned (.iface 119 (.pointer (some ⟨xb, 0, none⟩)))) w' :=
 ⟨_, xb, 1, bi, bf, rfl, hs, hm.mono (by omega), .node _ 190 [] (by simp [tbl]) xb L (Gx.of hx hxb (by simp; omega)) [] .nil [] 0 .nil, by omega⟩
theorem Stp.set_far {S x o : Nat} {v : Value} {w w' : World} {bm bi bf bi' bf' : Nat} (h : Stp S w w' bm bi bf bi' bf') (hx : S ≤ x) : Stp S w (w'.setCell ⟨x, o, none⟩ v) bm bi bf bi' bf' :=
 ⟨h.os, h.tape, h.output, by simp [World.setCell]; exact h.size, fun b hb h1 h2 h3 => (Below.heap_setCell w' _ v b (by show b ≠ x; omega)).trans (h.block b hb h1 h2 h3), h.hi, h.hf⟩
theorem MK.set_far {x o : Nat} {v : Value} {w : World} {H bm bi bf q : Nat} (h : MK w H bm bi bf q) (h1 : x ≠ bm) (h2 : x ≠ bi) (h3 : x ≠ bf) : MK (w.setCell ⟨x, o, none⟩ v) H bm bi bf q :=
 h.same (Below.heap_setCell w _ v bm (Ne.symm h1)) (Below.heap_setCell w _ v bi (Ne.symm h2)) (Below.heap_setCell w _ v bf (Ne.symm h3))
set_option maxHeartbeats 1600000 in
theorem literal_txt4 (H bm bi bf q : Nat) (nb : Bool) (ma ka : Option Addr) (ml mc kn kc : Nat) (ub : Int) (tx : ByteArray) (w : World) (h : MK w H bm bi bf q) :
   Calls Tryz.prog 47 #[.pointer (some ⟨bm, 0, none⟩), .agg #[.int .i64 4, .bool nb, .slice ma ml mc, .int .u64 ub, .string tx, .slice ka kn kc]] w (MPost H bm bi bf q 1 [] w) := by
 obtain ⟨g1, g2, g3, g4, g5, g6⟩ := h.lts
 obtain ⟨W0, hW0⟩ : ∃ W0, W0 = w.alloc (.cells #[.int .i64 4, .bool nb, .slice ma ml mc, .int .u64 ub, .string tx, .slice ka kn kc] 73) := ⟨_, rfl⟩
 have hb0 : Below w.heap.size w W0 := by rw [hW0]; exact (Below.refl _ _).alloc (Nat.le_refl _) _
 have E0 : Blk W0 w.heap.size 73 [.int .i64 4, .bool nb, .slice ma ml mc, .int .u64 ub, .string tx, .slice ka kn kc] := by rw [hW0]; exact Blk.new w _ _
 have HP := Li (pos_any H bm bi bf q W0 (h.below hb0))
 have HB0 := Li hb0
 have HE0 := Li E0
 have HM := Li h
 clear hb0 E0 h
 subst hW0
 go_enter Tryz.func47, Tryz.ntmps47
 go_wp2_with fail
 refine HP.out.mono ?_
 rintro e w1 ⟨ln, rfl, hb1⟩
 have hs1 := hb1.size
 have hE1 := HE0.out.below hb1 HE0.out.lt
 obtain ⟨xb, hxb⟩ : ∃ xb, w1.heap.size = xb := ⟨_, rfl⟩
 have d0 := hE1.cell 0 (by simp)
 have d4 := hE1.cell 4 (by simp)
 have hxw : w.heap.size < xb := by have := hE1.lt; omega
 have LITF : Hid (∀ L : List Value, MPost H bm bi bf q 1 [] w (.returned (.iface 119 (.pointer (some ⟨xb, 0, none⟩)))) (w1.alloc (.cells L.toArray 190)).drew) := Li (fun L => by
   have hb : Below w.heap.size w (w1.alloc (.cells L.toArray 190)).drew := ((HB0.out.trans (hb1.mono (by simp))).alloc (by omega) _).drew
   exact lit_fin (Stp.of_below hb) (HM.out.below hb) (by rw [← hxb]; exact Blk.new w1 _ L) (by omega) g5 g6)
 clear hb1 hE1
 go_wp2_with fail
 go_region
 go_wp2_with fail
 go_ret
 exact LITF.out _
set_option maxHeartbeats 1600000 in
theorem literal_txt5 (H bm bi bf q : Nat) (nb : Bool) (ma ka : Option Addr) (ml mc kn kc : Nat) (ub : Int) (tx : ByteArray) (w : World) (h : MK w H bm bi bf q) :
   Calls Tryz.prog 47 #[.pointer (some ⟨bm, 0, none⟩), .agg #[.int .i64 5, .bool nb, .slice ma ml mc, .int .u64 ub, .string tx, .slice ka kn kc]] w (MPost H bm bi bf q 1 [] w) := by
 obtain ⟨g1, g2, g3, g4, g5, g6⟩ := h.lts
 obtain ⟨W0, hW0⟩ : ∃ W0, W0 = w.alloc (.cells #[.int .i64 5, .bool nb, .slice ma ml mc, .int .u64 ub, .string tx, .slice ka kn kc] 73) := ⟨_, rfl⟩
 have hb0 : Below w.heap.size w W0 := by rw [hW0]; exact (Below.refl _ _).alloc (Nat.le_refl _) _
 have E0 : Blk W0 w.heap.size 73 [.int .i64 5, .bool nb, .slice ma ml mc, .int .u64 ub, .string tx, .slice ka kn kc] := by rw [hW0]; exact Blk.new w _ _
 have HP := Li (pos_any H bm bi bf q W0 (h.below hb0))
 have HB0 := Li hb0
 have HE0 := Li E0
 have HM := Li h
 clear hb0 E0 h
 subst hW0
 go_enter Tryz.func47, Tryz.ntmps47
 go_wp2_with fail
 refine HP.out.mono ?_
 rintro e w1 ⟨ln, rfl, hb1⟩
 have hs1 := hb1.size
 have hE1 := HE0.out.below hb1 HE0.out.lt
 obtain ⟨xb, hxb⟩ : ∃ xb, w1.heap.size = xb := ⟨_, rfl⟩
 have d0 := hE1.cell 0 (by simp)
 have d4 := hE1.cell 4 (by simp)
 have hxw : w.heap.size < xb := by have := hE1.lt; omega
 have LITF : Hid (∀ L : List Value, MPost H bm bi bf q 1 [] w (.returned (.iface 119 (.pointer (some ⟨xb, 0, none⟩)))) (w1.alloc (.cells L.toArray 190)).drew) := Li (fun L => by
   have hb : Below w.heap.size w (w1.alloc (.cells L.toArray 190)).drew := ((HB0.out.trans (hb1.mono (by simp))).alloc (by omega) _).drew
   exact lit_fin (Stp.of_below hb) (HM.out.below hb) (by rw [← hxb]; exact Blk.new w1 _ L) (by omega) g5 g6)
 clear hb1 hE1
 go_wp2_with fail
 go_region
 go_wp2_with fail
 go_ret
 exact LITF.out _
set_option maxHeartbeats 3200000 in
theorem literal_flt (H bm bi bf q : Nat) (nb : Bool) (ma ka : Option Addr) (ml mc kn kc : Nat) (ub : Int) (tx : ByteArray) (w : World) (h : MK w H bm bi bf q) (hu : 0 ≤ ub) (hu2 : ub < 9218868437227405312) :
   Calls Tryz.prog 47 #[.pointer (some ⟨bm, 0, none⟩), .agg #[.int .i64 3, .bool nb, .slice ma ml mc, .int .u64 ub, .string tx, .slice ka kn kc]] w (MPost H bm bi bf q 1 [] w) := by
 obtain ⟨g1, g2, g3, g4, g5, g6⟩ := h.lts
 obtain ⟨n, hn⟩ : ∃ n, n = ub.toNat := ⟨_, rfl⟩
 have hn2 : n < 9218868437227405312 := by omega
 have R1 : ∀ W : World, (binOp .geq 204 (.float .f64 n) (.float .f64 0)).run Tryz.prog W = .ok (.bool true) W := fun W => by
   have := flt_not_below n hn2
   simp [binOp, Op.floatCmp, go_sem]
   simpa using this
 have R2 : ∀ W : World, (binOp .leq 204 (.float .f64 n) (.float .f64 9218868437227405311)).run Tryz.prog W = .ok (.bool true) W := fun W => by
   have := flt_not_above n hn2
   simp [binOp, Op.floatCmp, go_sem]
   simpa using this
 have SG : Hid (∀ W, Calls Tryz.prog 57 #[.float .f64 n] W fun e w' => e = .returned (.bool false) ∧ W = w') := Li (fun W => signbit_any n W (by omega))
 have FB : ∀ W : World, (callFunc 56 #[.int .u64 ub]).run Tryz.prog W = .ok (.value (.float .f64 n)) W := fun W => by rw [frombitsW, ← hn]
 obtain ⟨W0, hW0⟩ : ∃ W0, W0 = w.alloc (.cells #[.int .i64 3, .bool nb, .slice ma ml mc, .int .u64 ub, .string tx, .slice ka kn kc] 73) := ⟨_, rfl⟩
 have hb0 : Below w.heap.size w W0 := by rw [hW0]; exact (Below.refl _ _).alloc (Nat.le_refl _) _
 have E0 : Blk W0 w.heap.size 73 [.int .i64 3, .bool nb, .slice ma ml mc, .int .u64 ub, .string tx, .slice ka kn kc] := by rw [hW0]; exact Blk.new w _ _
 have HP := Li (pos_any H bm bi bf q W0 (h.below hb0))
 have HB0 := Li hb0
 have HE0 := Li E0
 have HM := Li h
 clear hb0 E0 h hn hn2 hu hu2
 subst hW0
 go_enter Tryz.func47, Tryz.ntmps47
 go_wp2_with fail
 refine HP.out.mono ?_
 rintro e w1 ⟨ln, rfl, hb1⟩
 have hs1 := hb1.size
 have hE1 := HE0.out.below hb1 HE0.out.lt
 obtain ⟨xb, hxb⟩ : ∃ xb, w1.heap.size = xb := ⟨_, rfl⟩
 have d0 := hE1.cell 0 (by simp)
 have d3 := hE1.cell 3 (by simp)
 have hxw : w.heap.size < xb := by have := hE1.lt; omega
 obtain ⟨W1, hW1⟩ : ∃ W1, W1 = w1.alloc (.cells #[.pointer none, .int .i8 0, .pointer (some ⟨bm, 0, none⟩), .int .i32 ln, .int .i32 1, .string ⟨#[]⟩, .nilIface] 190) := ⟨_, rfl⟩
 have hbW : Below w.heap.size w W1 := by rw [hW1]; exact (HB0.out.trans (hb1.mono (by simp))).alloc (by omega) _
 have XB : Blk W1 xb 190 [.pointer none, .int .i8 0, .pointer (some ⟨bm, 0, none⟩), .int .i32 ln, .int .i32 1, .string ⟨#[]⟩, .nilIface] := by rw [hW1, ← hxb]; exact Blk.new w1 _ _
 have hsW := hbW.size
 have WT := Li (want_any H bm bi bf q W1 (HM.out.below hbW))
 have HBW := Li hbW
 have HXB := Li XB
 have hW1s : W1.heap.size = xb + 1 := by rw [hW1, ← hxb]; simp
 clear hb1 hE1 hbW XB
 subst hW1
 go_wp2_with (go_at_call 57; refine (SG.out _).mono ?_; rintro e w' ⟨rfl, rfl⟩)
 refine WT.out.mono ?_
 rintro e w2 ⟨rfl, hs2, hm2⟩
 obtain ⟨hx2, n1, n2⟩ := hs2.blk HXB.out (by simp; omega) (by omega) (by omega) (by omega)
 have x1 := hx2.cell 1 (by simp)
 have x6 := hx2.cell 6 (by simp)
 have y1 := hx2.free 1
 have y6 := hx2.free 6
 have xl := hx2.lt
 have FIN : Hid (∀ v1 v6, MPost H bm bi bf q 1 [] w (.returned (.iface 119 (.pointer (some ⟨xb, 0, none⟩)))) ((w2.setCell ⟨xb, 1, none⟩ v1).setCell ⟨xb, 6, none⟩ v6)) := Li (fun v1 v6 =>
   lit_fin (((Stp.of_below HBW.out).trans (hs2.mono (by simp; omega))).set_far (by omega) |>.set_far (by omega)) ((hm2.set_far (by omega) (by omega) (by omega)).set_far (by omega) (by omega) (by omega)) ((hx2.set 1 v1).set 6 v6) (by omega) g5 g6)
 clear hs2 hm2 hx2 WT
 go_wp2_with fail
 go_ret
 exact FIN.out _ _
theorem MK.wanted {w : World} {H bm bi bf q : Nat} (h : MK w H bm bi bf q) : Stp w.heap.size w (w.setCell ⟨bm, 5, none⟩ (.bool false)) bm bi bf bi bf ∧ MK (w.setCell ⟨bm, 5, none⟩ (.bool false)) H bm bi bf q ∧ ∃ L, Blk w bm 83 L ∧ ∀ u ∈ L, ∀ x, u ≠ wv x := by
 obtain ⟨nm, cnt, line, vi, vf, ni, nf, xi, xf, hk, hi, hf, hq, h1, h2, hH⟩ := h
 have hgs : w.grownBy (w.setCell ⟨bm, 5, none⟩ (.bool false)) (some bm) := ⟨rfl, rfl, rfl, by simp [World.setCell], fun b _ hne => Below.heap_setCell w ⟨bm, 5, none⟩ _ b (fun e => hne (by rw [e]))⟩
 refine ⟨⟨rfl, rfl, rfl, by simp [World.setCell], fun b _ n1 _ _ => Below.heap_setCell w ⟨bm, 5, none⟩ _ b n1, .inl rfl, .inl rfl⟩, ?_, _, hk, ?_⟩
 · exact ⟨nm, cnt, line, vi, vf, ni, nf, xi, xf, by simpa using hk.set 5 (.bool false), hi.kept hgs (.inr (own_other hi hk (by decide))), hf.kept hgs (.inr (own_other hf hk (by decide))), hq, h1, h2, hH⟩
 · obtain ⟨ia, ic, rfl⟩ := own_form hi
   obtain ⟨fa, fc, rfl⟩ := own_form hf
   intro u hu x
   simp only [List.mem_cons, List.mem_nil_iff, or_false] at hu
   rcases hu with rfl | rfl | rfl | rfl | rfl | rfl <;> simp [wv]
theorem want_exact (H bm bi bf q : Nat) (w : World) (h : MK w H bm bi bf q) : Calls Tryz.prog 36 #[.pointer (some ⟨bm, 0, none⟩), .bool true] w fun e w' => e = .returned (.bool true) ∧ w.setCell ⟨bm, 5, none⟩ (.bool false) = w' := by
 obtain ⟨nm, cnt, line, vi, vf, ni, nf, xi, xf, hk, hi, hf, hq, h1, h2, hH⟩ := h
 have hl := hk.lt
 have c5 := hk.cell 5 (by simp)
 have f5 := hk.free 5
 clear hk hi hf hq h1 h2
 go_enter Tryz.func36, Tryz.ntmps36
 go_wp2_with fail
 go_ret
 exact ⟨rfl, rfl⟩
theorem Bg.farW {w : World} {B b zb : Nat} {i : Int} {e : TypeId} {L : List Value} (h : Bg w B (some ⟨zb, 0, none⟩) i) (hk : Blk w b e L) (hz : b ≠ zb) (hd : ∀ u ∈ L, ∀ x, u ≠ wv x) (o : Nat) (y : Value) : Bg (w.setCell ⟨b, o, none⟩ y) B (some ⟨zb, 0, none⟩) i := by
 obtain ⟨c, abs, hc, h2, h3, xs, h4, h5⟩ := h
 simp only [Option.some.injEq, Addr.mk.injEq, and_true] at hc
 subst hc
 exact ⟨zb, abs, rfl, h2, h3.far (by simpa using Ne.symm hz) y, xs, h4, h5.far hk (not_wv hd xs) o y⟩
theorem bval_lim (ms : List Nat) (hb : ∀ x ∈ ms, x < 256) (hl : ms.length ≤ 40) : bval ms < lim := by
 have := bval_lt ms hb
 unfold lim
 exact lt_pow_of this (by rw [limW_eq]; omega)
set_option maxHeartbeats 3200000 in
theorem literal_int (H bm bi bf q : Nat) (ma ka : Option Addr) (ms : List Nat) (mc kn kc : Nat) (ub : Int) (tx : ByteArray) (w : World) (B : Nat) (h : MK w H bm bi bf q) (hsl : Sl w B (.slice ma ms.length mc) (ms.map bv)) (hB : B ≤ w.heap.size) (hb : ∀ x ∈ ms, x < 256) (hl : ms.length ≤ 40) (hn : ms = [] ∨ ms[0]? ≠ some 0) :
   Calls Tryz.prog 47 #[.pointer (some ⟨bm, 0, none⟩), .agg #[.int .i64 2, .bool false, .slice ma ms.length mc, .int .u64 ub, .string tx, .slice ka kn kc]] w (MPost H bm bi bf q 1 [] w) := by
 obtain ⟨g1, g2, g3, g4, g5, g6⟩ := h.lts
 obtain ⟨m, hm⟩ : ∃ m, m = bval ms := ⟨_, rfl⟩
 have hby : Bytes ms m := by rw [hm]; exact bytes_of_ok ms hb hn
 have hlim : m < lim := by rw [hm]; exact bval_lim ms hb hl
 obtain ⟨W0, hW0⟩ : ∃ W0, W0 = w.alloc (.cells #[.int .i64 2, .bool false, .slice ma ms.length mc, .int .u64 ub, .string tx, .slice ka kn kc] 73) := ⟨_, rfl⟩
 have hb0 : Below w.heap.size w W0 := by rw [hW0]; exact (Below.refl _ _).alloc (Nat.le_refl _) _
 have E0 : Blk W0 w.heap.size 73 [.int .i64 2, .bool false, .slice ma ms.length mc, .int .u64 ub, .string tx, .slice ka kn kc] := by rw [hW0]; exact Blk.new w _ _
 have HP := Li (pos_any H bm bi bf q W0 (h.below hb0))
 have HB0 := Li hb0
 have HE0 := Li E0
 have HM := Li h
 have HSL := Li hsl
 have HBY := Li hby
 have HLIM := Li hlim
 clear hb0 E0 h hb hl hn hsl hm hby hlim
 subst hW0
 go_enter Tryz.func47, Tryz.ntmps47
 go_wp2_with fail
 refine HP.out.mono ?_
 rintro e w1 ⟨ln, rfl, hb1⟩
 have hs1 := hb1.size
 have hE1 := HE0.out.below hb1 HE0.out.lt
 obtain ⟨xb, hxb⟩ : ∃ xb, w1.heap.size = xb := ⟨_, rfl⟩
 have d0 := hE1.cell 0 (by simp)
 have d1 := hE1.cell 1 (by simp)
 have d2 := hE1.cell 2 (by simp)
 have hxw : w.heap.size < xb := by have := hE1.lt; omega
 obtain ⟨W2, hW2⟩ : ∃ W2, W2 = (w1.alloc (.cells #[.pointer none, .int .i8 0, .pointer (some ⟨bm, 0, none⟩), .int .i32 ln, .int .i32 1, .string ⟨#[]⟩, .nilIface] 190)).alloc (.cells #[.bool false, .slice none 0 0] 200) := ⟨_, rfl⟩
 have hbW : Below w.heap.size w W2 := by rw [hW2]; exact ((HB0.out.trans (hb1.mono (by simp))).alloc (by omega) _).alloc (by simp; omega) _
 have XB : Blk W2 xb 190 [.pointer none, .int .i8 0, .pointer (some ⟨bm, 0, none⟩), .int .i32 ln, .int .i32 1, .string ⟨#[]⟩, .nilIface] := by rw [hW2, ← hxb]; exact (Blk.new w1 _ _).alloc _
 have ZB : Blk W2 (xb + 1) 200 [.bool false, .slice none 0 0] := by
   rw [hW2]
   have := Blk.new (w1.alloc (.cells #[.pointer none, .int .i8 0, .pointer (some ⟨bm, 0, none⟩), .int .i32 ln, .int .i32 1, .string ⟨#[]⟩, .nilIface] 190)) 200 [.bool false, .slice none 0 0]
   simpa [hxb] using this
 have hW2s : W2.heap.size = xb + 2 := by rw [hW2, ← hxb]; simp
 have VB : Blk W2 w.heap.size 73 [.int .i64 2, .bool false, .slice ma ms.length mc, .int .u64 ub, .string tx, .slice ka kn kc] := by rw [hW2]; exact (hE1.alloc _).alloc _
 have SB := Li (SetBytes_any (xb + 1) m (.slice ma ms.length mc) W2 ZB ⟨ms, HBY.out, ((HSL.out.below (hbW.mono hB)).more (by omega))⟩ HLIM.out)
 have HMW := Li (HM.out.below hbW)
 have HBW := Li hbW
 have HXB := Li XB
 have HVB := Li VB
 have hW2e : W2.heap.size = xb + 2 := hW2s
 clear hb1 hE1 hbW XB ZB VB hW2e
 subst hW2
 go_wp2_with fail
 refine SB.out.mono ?_
 rintro e w3 ⟨rfl, hbg, hup⟩
 have hs3 := hup.size
 have hx3 := HXB.out.up hup (by simp)
 have hv3 := HVB.out.up hup (by simp; omega)
 have hm3 : MK w3 H bm bi bf q := HMW.out.same (hup.block bm (by simp; omega) (by simp; omega)) (hup.block bi (by simp; omega) (by simp; omega)) (hup.block bf (by simp; omega) (by simp; omega))
 have hst3 : Stp w.heap.size w w3 bm bi bf bi bf := (Stp.of_below HBW.out).trans ⟨hup.os, hup.tape, hup.output, hup.size, fun b hb _ _ _ => hup.block b (by simp; omega) (by simp; omega), .inl rfl, .inl rfl⟩
 have hw3 : xb + 2 ≤ w3.heap.size := by simpa [hxb] using hs3
 have e1 := hv3.cell 1 (by simp)
 have hl3 := hv3.lt
 have WT := Li (want_exact H bm bi bf q w3 hm3)
 obtain ⟨hst4, hm4, LM, hLM, hLM2⟩ := hm3.wanted
 have hx4 : Blk (w3.setCell ⟨bm, 5, none⟩ (.bool false)) xb 190 _ := hx3.far (by simp; omega) _
 have hbg4 := hbg.farW hLM (by omega) hLM2 5 (.bool false)
 have hx5 := hx4.set 1 (.int .i8 6)
 have hbg5 := hbg4.farW hx4 (by omega) (by intro u hu x; simp only [List.mem_cons, List.mem_nil_iff, or_false] at hu; rcases hu with rfl | rfl | rfl | rfl | rfl | rfl | rfl <;> simp [wv]) 1 (.int .i8 6)
 simp only [List.set_cons_succ, List.set_cons_zero] at hx5
 have hx6 := hx5.set 6 (.iface 196 (.pointer (some ⟨xb + 1, 0, none⟩)))
 have hbg6 := hbg5.farW hx5 (by omega) (by intro u hu x; simp only [List.mem_cons, List.mem_nil_iff, or_false] at hu; rcases hu with rfl | rfl | rfl | rfl | rfl | rfl | rfl <;> simp [wv]) 6 (.iface 196 (.pointer (some ⟨xb + 1, 0, none⟩)))
 simp only [List.set_cons_succ, List.set_cons_zero] at hx6
 obtain ⟨W6, hW6⟩ : ∃ W6, W6 = ((w3.setCell ⟨bm, 5, none⟩ (.bool false)).setCell ⟨xb, 1, none⟩ (.int .i8 6)).setCell ⟨xb, 6, none⟩ (.iface 196 (.pointer (some ⟨xb + 1, 0, none⟩))) := ⟨_, rfl⟩
 have hst6 : Stp w.heap.size w W6 bm bi bf bi bf := by rw [hW6]; exact ((hst3.trans (hst4.mono (by omega))).set_far (by omega)).set_far (by omega)
 have hm6 : MK W6 H bm bi bf q := by rw [hW6]; exact (hm4.set_far (by omega) (by omega) (by omega)).set_far (by omega) (by omega) (by omega)
 rw [← hW6] at hx6 hbg6
 have hsz6 : W6.heap.size = w3.heap.size := by rw [hW6]; simp [World.setCell]
 have hbg6' : Bg W6 W6.heap.size (some ⟨xb + 1, 0, none⟩) (m : Int) := by rw [hsz6]; exact hbg6
 have IS := Li (isInt64_any _ m W6 hbg6')
 have FIN0 := Li (lit_fin hst6 hm6 hx6 (by omega) g5 g6)
 have FIN1 : Hid (∀ v, MPost H bm bi bf q 1 [] w (.returned (.iface 119 (.pointer (some ⟨xb, 0, none⟩)))) (W6.setCell ⟨xb, 6, none⟩ v)) := Li (fun v => lit_fin (hst6.set_far (by omega)) (hm6.set_far (by omega) (by omega) (by omega)) (hx6.set 6 v) (by omega) g5 g6)
 have HBG6 := Li hbg6'
 have y1 := hx4.cell 1 (by simp)
 have y6 := hx4.cell 6 (by simp)
 have z1 := hx4.free 1
 have z6 := hx4.free 6
 have yl := hx4.lt
 have v6 := hx6.cell 6 (by simp)
 have vf6 := hx6.free 6
 have vl6 := hx6.lt
 clear SB hup hbg hx3 hv3 hm3 hst3 hst4 hm4 hLM hLM2 hx4 hbg4 hx5 hbg5 hx6 hbg6 hst6 hm6 hbg6'
 go_wp2_with fail
 refine WT.out.mono ?_
 rintro e w4 ⟨rfl, rfl⟩
 go_wp2_with fail
 rw [← hW6]
 clear hW6
 refine IS.out.mono ?_
 rintro e w7 ⟨y, rfl, hy, rfl⟩
 cases y with
 | false =>
   clear hy
   go_wp2_with fail
   go_ret
   exact FIN0.out
 | true =>
   have I6 := Li (Int64_any _ _ W6 HBG6.out (by have := hy rfl; simpa using this))
   clear hy
   go_wp2_with fail
   refine I6.out.mono ?_
   rintro e w8 ⟨rfl, rfl⟩
   go_wp2_with fail
   go_ret
   exact FIN1.out _
end Go.Proofs.YtoojgjhfmmohbaaGreat
