/- (nat).divBasic: what a round keeps: the rows, the stack. (nat).divBasic: the product is taken away, the divisor is given back: the calls' contracts. -/
import Derived.Test.YtpcnmgldmnncoaaGreatDoorMDb
import Derived.Test.YtpcnmgldmnncoaaGreatDoorMStk
import Derived.Test.YtpcnmgldmnncoaaGreatDoorMSh
namespace Go.Proofs.YtpcnmgldmnncoaaGreatDoor
open Go.RowKit Dig
set_option linter.unusedVariables false
set_option linter.unusedSimpArgs false
set_option maxRecDepth 100000

/-- what a division leaves: the quotient's words, the rest's words -/
def DbPost (H S M N X V bq bu : Nat) (Lq Lu : List Value) (w : World) (e : Ending) (w' : World) : Prop :=
  e = .returned (.tuple #[]) ∧ (∃ l' og', Stk w' H S l' og') ∧ Blk w' bq 79 (splice Lq 0 ((dgs 18446744073709551616 M (X / V)).map wv)) ∧ Blk w' bu 79 (splice Lu 0 ((dgs 18446744073709551616 N (X % V)).map wv)) ∧ Below H w w'
/-- the relation at the head of a round: k rounds are to come -/
structure DbRel (H S l p M X V bq bu bv ov gh oh lh : Nat) (Lq Lu : List Value) (w : World) (k : Nat) (wr : World) : Prop where
  q : Blk wr bq 79 (splice Lq k ((dgs 18446744073709551616 (M - k) (X / 18446744073709551616 ^ k / V)).map wv))
  u : Blk wr bu 79 (splice Lu 0 ((dgs 18446744073709551616 (M + (p + 2)) (yk X V k)).map wv))
  v : Rd wr bv ov ((dgs 18446744073709551616 (p + 2) V).map wv)
  h : ∃ Lh, Blk wr gh 79 Lh ∧ Lh.length = lh
  s : ∃ l' og', l ≤ l' ∧ Stk wr H S l' og'
  b : Below H w wr
/-- the same within a round: the dividend's row is LU -/
structure DbMid (H S l p M X V bq bu bv ov gh oh lh : Nat) (Lq LU : List Value) (w : World) (k : Nat) (wr : World) : Prop where
  q : Blk wr bq 79 (splice Lq k ((dgs 18446744073709551616 (M - k) (X / 18446744073709551616 ^ k / V)).map wv))
  u : Blk wr bu 79 LU
  v : Rd wr bv ov ((dgs 18446744073709551616 (p + 2) V).map wv)
  h : ∃ Lh, Blk wr gh 79 Lh ∧ Lh.length = lh
  s : ∃ l' og', l ≤ l' ∧ Stk wr H S l' og'
  b : Below H w wr
section
variable {H S l p M X V bq bu bv ov gh oh lh : Nat} {Lq Lu LU LU' : List Value} {w : World} {k : Nat} {wr W : World}
theorem DbRel.mid (h : DbRel H S l p M X V bq bu bv ov gh oh lh Lq Lu w k wr) : DbMid H S l p M X V bq bu bv ov gh oh lh Lq (splice Lu 0 ((dgs 18446744073709551616 (M + (p + 2)) (yk X V k)).map wv)) w k wr := ⟨h.q, h.u, h.v, h.h, h.s, h.b⟩
theorem DbMid.rel (h : DbMid H S l p M X V bq bu bv ov gh oh lh Lq (splice Lu 0 ((dgs 18446744073709551616 (M + (p + 2)) (yk X V k)).map wv)) w k wr) : DbRel H S l p M X V bq bu bv ov gh oh lh Lq Lu w k wr := ⟨h.q, h.u, h.v, h.h, h.s, h.b⟩
theorem DbMid.drewN (h : DbMid H S l p M X V bq bu bv ov gh oh lh Lq LU w k wr) (n : Nat) : DbMid H S l p M X V bq bu bv ov gh oh lh Lq LU w k (wr.drewN n) := by
  obtain ⟨Lh, h1, h2⟩ := h.h
  obtain ⟨l', og', h3, h4⟩ := h.s
  exact ⟨h.q.drewN n, h.u.drewN n, h.v, ⟨Lh, h1.drewN n, h2⟩, ⟨l', og', h3, h4.drewN n⟩, below_drewN h.b n⟩
theorem up_below_of {H b : Nat} {w wr W : World} (hb : Below H w wr) (hHw : H ≤ w.heap.size) (hHb : H ≤ b) (hu : Up (some b) wr W) : Below H w W :=
  hb.trans (hu.below (by have := hb.size; omega) (fun k hk => by injection hk with hk; omega))
/-- the product's row is written -/
theorem DbMid.wr_h {L5 : List Value} (h : DbMid H S l p M X V bq bu bv ov gh oh lh Lq LU w k wr) (hu : Up (some gh) wr W) (h5 : Blk W gh 79 L5) (hl : L5.length = lh) (hv : Rd W bv ov ((dgs 18446744073709551616 (p + 2) V).map wv)) (n1 : ¬ bq = gh) (n2 : ¬ bu = gh) (hHw : H ≤ w.heap.size) (hHg : H ≤ gh) : DbMid H S l p M X V bq bu bv ov gh oh lh Lq LU w k W := by
  obtain ⟨Lh, h1, h2⟩ := h.h
  obtain ⟨l', og', h3, h4⟩ := h.s
  exact ⟨h.q.up hu (by intro e; injection e with e; exact n1 e), h.u.up hu (by intro e; injection e with e; exact n2 e), hv, ⟨L5, h5, hl⟩, ⟨l', og', h3, h4.write h1 h5 (by omega) hu⟩, up_below_of h.b hHw hHg hu⟩
/-- the dividend's row is written -/
theorem DbMid.wr_u (h : DbMid H S l p M X V bq bu bv ov gh oh lh Lq LU w k wr) (hu : Up (some bu) wr W) (h5 : Blk W bu 79 LU') (hl : LU'.length = LU.length) (n1 : bq ≠ bu) (n2 : ¬ bu = gh) (n3 : bv ≠ bu) (hvlt : bv < wr.heap.size) (hHw : H ≤ w.heap.size) (hHu : H ≤ bu) : DbMid H S l p M X V bq bu bv ov gh oh lh Lq LU' w k W := by
  obtain ⟨Lh, h1, h2⟩ := h.h
  obtain ⟨l', og', h3, h4⟩ := h.s
  exact ⟨h.q.up hu (by intro e; injection e with e; exact n1 e), h5, h.v.up hu hvlt (by intro e; injection e with e; exact n3 e), ⟨Lh, h1.up hu (by intro e; injection e with e; exact n2 e.symm), h2⟩, ⟨l', og', h3, h4.write h.u h5 hl hu⟩, up_below_of h.b hHw hHu hu⟩
/-- the quotient's word is written -/
theorem DbMid.wr_q {j g : Nat} (h : DbMid H S l p M X V bq bu bv ov gh oh lh Lq LU w (j + 1) wr) (hL : M ≤ Lq.length) (hj : j < M) (hV : 0 < V) (hg : ur X V j / V = g) (hgB : g < 18446744073709551616) (n1 : bq ≠ bu) (n2 : ¬ bq = gh) (n3 : bv ≠ bq) (hvlt : bv < wr.heap.size) (hHw : H ≤ w.heap.size) (hHq : H ≤ bq) : DbMid H S l p M X V bq bu bv ov gh oh lh Lq LU w j (wr.setCell ⟨bq, j, none⟩ (.int .u64 (g : Int))) := by
  obtain ⟨Lh, h1, h2⟩ := h.h
  obtain ⟨l', og', h3, h4⟩ := h.s
  have hu : Up (some bq) wr (wr.setCell ⟨bq, j, none⟩ (.int .u64 (g : Int))) := (Up.refl _ wr).set _ _
  have hq := h.q.set j (.int .u64 (g : Int))
  rw [q_next Lq M X V j g hL hj hV hg hgB] at hq
  exact ⟨hq, h.u.up hu (by intro e; injection e with e; exact n1 e.symm), h.v.up hu hvlt (by intro e; injection e with e; exact n3 e), ⟨Lh, h1.up hu (by intro e; injection e with e; exact n2 e.symm), h2⟩, ⟨l', og', h3, h4.write h.q hq (by rw [length_splice _ _ _ (by simp [dgs_length]; omega), length_splice _ _ _ (by simp [dgs_length]; omega)]) hu⟩, up_below_of h.b hHw hHq hu⟩
theorem DbMid.top (h : DbMid H S l p M X V bq bu bv ov gh oh lh Lq LU w (M + 1) wr) : DbMid H S l p M X V bq bu bv ov gh oh lh Lq LU w M wr := by
  refine ⟨?_, h.u, h.v, h.h, h.s, h.b⟩
  have := h.q
  rw [show M - (M + 1) = 0 by omega] at this
  rw [Nat.sub_self]
  simpa [dgs, splice_nil] using this
/-- the divisor's words when the product's row is written: the divisor may lie in the product's block, below it -/
theorem v_kept {Lh : List Value} (hv : Rd wr bv ov ((dgs 18446744073709551616 (p + 2) V).map wv)) (hlo : bv = gh → ov + (p + 2) ≤ oh) (h1 : Blk wr gh 79 Lh) (cs : List Value) (h5 : Blk W gh 79 (splice Lh oh cs)) (hl : oh + cs.length ≤ Lh.length) (hu : Up (some gh) wr W) : Rd W bv ov ((dgs 18446744073709551616 (p + 2) V).map wv) := by
  by_cases e : bv = gh
  · have ho := hlo e
    intro i hi
    have hi' : i < p + 2 := by simpa [dgs_length] using hi
    rw [← hv i hi, e, h5.cell (ov + i) (by rw [length_splice _ _ _ hl]; omega), h1.cell (ov + i) (by omega)]
    congr 1
    unfold splice
    rw [List.getD_eq_getElem?_getD, List.getElem?_append_left (by simp; omega), List.getElem?_take, if_pos (by omega), ← List.getD_eq_getElem?_getD]
  · intro i hi
    have hc := hv i hi
    have hlt := lt_of_cell hc
    exact (World.cell?_of_block (a := ⟨bv, ov + i, none⟩) (hu.block bv hlt (by intro e'; injection e' with e'; exact e e'))).trans hc
end
end Go.Proofs.YtpcnmgldmnncoaaGreatDoor

namespace Go.Proofs.YtpcnmgldmnncoaaGreatDoor
open Go.RowKit Dig
set_option linter.unusedVariables false
set_option linter.unusedSimpArgs false
set_option maxRecDepth 100000

theorem sub_at (X V j p K PV cu ch bu gh oh N : Nat) (Lu Lh : List Value) (W : World) (hcu : K ≤ cu - j) (hch : K ≤ ch) (hKp : K ≤ p + 3) (hK : j + K ≤ N) (hN : N ≤ 900) (hL : N ≤ Lu.length) (hU : ur X V j < 18446744073709551616 ^ K) (hP : PV < 18446744073709551616 ^ K) (hne : ¬ bu = gh) (hoh : oh + (p + 3) ≤ Lh.length)
    (hu : Blk W bu 79 (splice Lu 0 ((dgs 18446744073709551616 N (yk X V (j + 1))).map wv))) (hh : Blk W gh 79 (splice Lh oh ((dgs 18446744073709551616 (p + 3) PV).map wv))) :
    Calls Tryz.prog 67 #[.slice (some ⟨bu, j, none⟩) K (cu - j), .slice (some ⟨bu, j, none⟩) K (cu - j), .slice (some ⟨gh, oh, none⟩) K ch] W
      (VecPost bu (splice (splice Lu 0 ((dgs 18446744073709551616 N (yk X V (j + 1))).map wv)) j ((dgs 18446744073709551616 K (ur X V j + 18446744073709551616 ^ K - PV)).map wv)) (if ur X V j < PV then 1 else 0) W) := by
  have hsl : (splice Lu 0 ((dgs 18446744073709551616 N (yk X V (j + 1))).map wv)).length = Lu.length := length_splice _ _ _ (by simp [dgs_length]; omega)
  have h := subVV_gen (dgs 18446744073709551616 K (ur X V j)) (dgs 18446744073709551616 K PV) (splice Lu 0 ((dgs 18446744073709551616 N (yk X V (j + 1))).map wv)) bu j K (cu - j) (cu - j) ch (some ⟨bu, j, none⟩) (some ⟨gh, oh, none⟩) W hcu hch (dgs_length _ _ _) (dgs_length _ _ _) (dgs_lt _ (by omega) _ _) (dgs_lt _ (by omega) _ _) hu (by omega) (by omega) (fun wq i hi hbq hup => by
    refine ⟨⟨bu, j, rfl, ?_⟩, gh, oh, rfl, ?_⟩
    · have h2 := hbq.cell (j + i) (by rw [length_splice _ _ _ (by simp [dgs_length, hsl]; omega), hsl]; omega)
      rw [h2, dgs_get _ _ _ _ hi, splice_beyond _ _ j i (by simp [dgs_length]) (by simp [dgs_length, hsl]; omega), row_get Lu N X V j i hL (by omega)]
    · have hlt := hh.lt
      have : wq.cell? ⟨gh, oh + i, none⟩ = W.cell? ⟨gh, oh + i, none⟩ := World.cell?_of_block (a := ⟨gh, oh + i, none⟩) (hup.block gh hlt (by intro e; injection e with e; exact hne e.symm))
      rw [this, hh.cell (oh + i) (by rw [length_splice _ _ _ (by simp [dgs_length]; omega)]; omega), row_word Lh oh (p + 3) PV i hoh (by omega), dgs_get _ _ _ _ hi])
  rw [dgs_val_of _ _ _ hU, dgs_val_of _ _ _ hP] at h
  exact h
theorem add_at (V j p K D cu cv bu bv ov : Nat) (L : List Value) (W : World) (hcu : p + 2 ≤ cu - j) (hcv : p + 2 ≤ cv) (hKp : p + 2 ≤ K) (hL : j + K ≤ L.length) (hp : p ≤ 900) (hVn : V < 18446744073709551616 ^ (p + 2)) (hne : bv ≠ bu)
    (hu : Blk W bu 79 (splice L j ((dgs 18446744073709551616 K D).map wv))) (hv : Rd W bv ov ((dgs 18446744073709551616 (p + 2) V).map wv)) :
    Calls Tryz.prog 65 #[.slice (some ⟨bu, j, none⟩) (p + 2 : Nat) (cu - j), .slice (some ⟨bu, j, none⟩) (p + 2 : Nat) (cu - j), .slice (some ⟨bv, ov, none⟩) (p + 2 : Nat) cv] W
      (VecPost bu (splice (splice L j ((dgs 18446744073709551616 K D).map wv)) j ((dgs 18446744073709551616 (p + 2) (D % 18446744073709551616 ^ (p + 2) + V)).map wv)) ((D % 18446744073709551616 ^ (p + 2) + V) / 18446744073709551616 ^ (p + 2)) W) := by
  have hsl : (splice L j ((dgs 18446744073709551616 K D).map wv)).length = L.length := length_splice _ _ _ (by simp [dgs_length]; omega)
  have h := addVV_gen (dgs 18446744073709551616 (p + 2) D) (dgs 18446744073709551616 (p + 2) V) (splice L j ((dgs 18446744073709551616 K D).map wv)) bu j (p + 2) (cu - j) (cu - j) cv (some ⟨bu, j, none⟩) (some ⟨bv, ov, none⟩) W hcu hcv (dgs_length _ _ _) (dgs_length _ _ _) (dgs_lt _ (by omega) _ _) (dgs_lt _ (by omega) _ _) hu (by omega) (by omega) (fun wq i hi hbq hup => by
    refine ⟨⟨bu, j, rfl, ?_⟩, bv, ov, rfl, ?_⟩
    · have h2 := hbq.cell (j + i) (by rw [length_splice _ _ _ (by simp [dgs_length, hsl]; omega), hsl]; omega)
      rw [h2, dgs_get _ _ _ _ hi, splice_beyond _ _ j i (by simp [dgs_length]) (by simp [dgs_length, hsl]; omega), row_word L j K D i hL (by omega)]
    · have hc := hv i (by simp [dgs_length]; exact hi)
      have hlt := lt_of_cell hc
      have : wq.cell? ⟨bv, ov + i, none⟩ = W.cell? ⟨bv, ov + i, none⟩ := World.cell?_of_block (a := ⟨bv, ov + i, none⟩) (hup.block bv hlt (by intro e; injection e with e; exact hne e))
      rw [this, hc, getD_map_wv _ _ (by rw [dgs_length]; exact hi)])
  rw [dgs_val_of _ _ _ hVn, dgs_val] at h
  exact h
end Go.Proofs.YtpcnmgldmnncoaaGreatDoor
