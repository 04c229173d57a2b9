/- The builtin copy into a row of the call's own, nothing else turned; rows into which cells are laid. No function of the program. A nat of one's own: a row whose block is not below H, or none; it may be empty and yet have room. math/bits.Add, Sub at words; addVV, subVV: sums and differences of rows of words, laid into a row of the caller's own. -/
import Derived.Test.YtpcnmgldmnncoaaGreatDoorMBase
import Derived.Laws.CopyOwn
import Derived.Test.YtpcnmgldmnncoaaGreatDoorMTold
import Derived.Shelf.Spec.BitsCarry
namespace Go.Proofs.YtpcnmgldmnncoaaGreatDoor
open Go.RowKit Dig
set_option linter.unusedVariables false
set_option linter.unusedSimpArgs false

theorem splice_nil (L : List Value) (o : Nat) : splice L o [] = L := by simp [splice]
theorem up_setRow {g : Nat} {w0 w : World} (hb : Up (some g) w0 w) (cs : Array Value) : Up (some g) w0 (w.setRow g cs) :=
  hb.trans ⟨rfl, rfl, rfl, by simp [World.setRow], fun k _ hr => setRow_other w g k cs (by simpa using hr)⟩

section
variable {P : Program}
theorem wpList_copy_up {w : World} {ops : Array Oper} {rest : List Oper} {o : Oper} {a : Act} {Q : Exit → Act → World → Prop} (hgd : o.guard = none) (d s : Operand) (dT sT : TypeId)
    (ho : o.op = .call { callee := .builtin .copy, args := #[d, s], argTypes := #[dT, sT] }) (elem : TypeId) (hu : P.underlying dT = some (.slice elem)) (hsz : (P.info? elem).map (·.size) = some 1)
    (dp sp : Option Addr) (dLen dCap sLen sCap : Nat) (hd : a.eval d = .slice dp dLen dCap) (hs : a.eval s = .slice sp sLen sCap)
    (g off : Nat) (cur : List Value) (t : TypeId) (hg : Blk w g t cur) (cs : List Value) (hn : cs.length = Nat.min sLen dLen)
    (hpos : 0 < cs.length → dp = some ⟨g, off, none⟩ ∧ ∃ ad, sp = some ad ∧ ∀ j v, cs[j]? = some v → w.cell? (ad.add j) = some v)
    (hfit : off + cs.length ≤ cur.length) (h1 : ∀ v ∈ cs, v.oneCell' = true) (w0 : World) (hb : Up (some g) w0 w)
    (h : ∀ w', Hid (Blk w' g t (splice cur off cs)) → Hid (Up (some g) w0 w') → wpList P ops Q rest (a.put o.dst (goInt cs.length)) w') :
    wpList P ops Q (o :: rest) a w := by
  by_cases h0 : cs.length = 0
  · obtain rfl : cs = [] := List.eq_nil_of_length_eq_zero h0
    refine wpList_copy_nothing hgd d s dT sT ho elem hu hsz dp sp dLen dCap sLen sCap hd hs (by simpa using hn.symm) ?_
    exact h w (show Blk w g t (splice cur off []) by rw [splice_nil]; exact hg) hb
  · obtain ⟨rfl, ad, rfl, hsrc⟩ := hpos (by omega)
    refine wpList_copy_own hgd d s dT sT ho elem hu hsz g off dLen dCap ad sLen sCap hd hs cur.toArray t hg cs hn hsrc (by simpa using hfit) h1 ?_
    exact h _ (show _ = _ by simpa [splice] using setRow_heap w g _ _ t _ hg) (up_setRow hb _)
theorem step_copy_up {ops : Array Oper} {o : Oper} {a : Act} {w : World} {K : Act → World → Prop} {Q : Exit → Act → World → Prop} {E : Prop} (hgd : o.guard = none) (d s : Operand) (dT sT : TypeId)
    (ho : o.op = .call { callee := .builtin .copy, args := #[d, s], argTypes := #[dT, sT] }) (elem : TypeId) (hu : P.underlying dT = some (.slice elem)) (hsz : (P.info? elem).map (·.size) = some 1)
    (dp sp : Option Addr) (dLen dCap sLen sCap : Nat) (hd : a.eval d = .slice dp dLen dCap) (hs : a.eval s = .slice sp sLen sCap)
    (g off : Nat) (cur : List Value) (t : TypeId) (hg : Blk w g t cur) (cs : List Value) (hn : cs.length = Nat.min sLen dLen)
    (hpos : 0 < cs.length → dp = some ⟨g, off, none⟩ ∧ ∃ ad, sp = some ad ∧ ∀ j v, cs[j]? = some v → w.cell? (ad.add j) = some v)
    (hfit : off + cs.length ≤ cur.length) (h1 : ∀ v ∈ cs, v.oneCell' = true) (w0 : World) (hb : Up (some g) w0 w)
    (h : ∀ w', Hid (Blk w' g t (splice cur off cs)) → Hid (Up (some g) w0 w') → K (a.put o.dst (goInt cs.length)) w') :
    if Region.wanted o (yielded ops a.tmps) = true then Oper.wp P o a w K Q else E := by
  have hw : Region.wanted o (yielded ops a.tmps) = true := by simp [Region.wanted, hgd]
  rw [if_pos hw]
  by_cases h0 : cs.length = 0
  · obtain rfl : cs = [] := List.eq_nil_of_length_eq_zero h0
    have hrun := run_copy_none (P := P) w dT sT o.type elem dp sp dLen dCap sLen sCap hu hsz (by simpa using hn.symm)
    unfold Oper.wp
    simp [execOp, ho, resolve, invoke, builtin, hd, hs, hrun, Result.andThen]
    exact h w (show Blk w g t (splice cur off []) by rw [splice_nil]; exact hg) hb
  · obtain ⟨rfl, ad, rfl, hsrc⟩ := hpos (by omega)
    have hrun := run_copy_row (P := P) w dT sT o.type elem g off dLen dCap ad sLen sCap cur.toArray t cs hu hsz hg hn hsrc (by simpa using hfit) h1
    unfold Oper.wp
    simp [execOp, ho, resolve, invoke, builtin, hd, hs, hrun, Result.andThen]
    exact h _ (show _ = _ by simpa [splice] using setRow_heap w g _ _ t _ hg) (up_setRow hb _)
end

/-- a row into which cells are laid from place o on -/
theorem splice_set (L : List Value) (o k : Nat) (cs : List Value) (v : Value) (hk : cs.length = k) (h : o + k < L.length) : (splice L o cs).set (o + k) v = splice L o (cs ++ [v]) := by
  subst hk
  unfold splice
  have e1 : (L.take o).length = o := by simp; omega
  rw [List.set_append_right _ _ (by omega), e1, List.set_append_right _ _ (by omega)]
  rw [List.drop_eq_getElem_cons h]
  have e2 : o + cs.length - o - cs.length = 0 := by omega
  rw [e2]
  simp [List.append_assoc, Nat.add_assoc]
theorem splice_splice (L : List Value) (o : Nat) (A B : List Value) (h : o + A.length + B.length ≤ L.length) : splice (splice L o A) (o + A.length) B = splice L o (A ++ B) := by
  have e1 : (L.take o).length = o := by simp; omega
  have e0 : (L.take o ++ A).length = o + A.length := by simp; omega
  unfold splice
  have e2 : (L.take o ++ (A ++ L.drop (o + A.length))).take (o + A.length) = L.take o ++ A := by
    rw [← List.append_assoc, List.take_left' e0]
  have e3 : (L.take o ++ (A ++ L.drop (o + A.length))).drop (o + A.length + B.length) = L.drop (o + A.length + B.length) := by
    rw [← List.append_assoc, ← List.drop_drop, List.drop_left' e0, List.drop_drop]
  rw [e2, e3]
  simp [List.append_assoc, Nat.add_assoc]
theorem splice_all (L : List Value) (cs : List Value) (h : cs.length = L.length) : splice L 0 cs = cs := by
  unfold splice
  rw [List.drop_of_length_le (by omega)]; simp
theorem splice_getD (L : List Value) (o : Nat) (cs : List Value) (h : o + cs.length ≤ L.length) (i : Nat) (hi : i < cs.length) : (splice L o cs).getD (o + i) undef = cs.getD i undef := by
  unfold splice
  have e1 : (L.take o).length = o := by simp; omega
  rw [List.getD_eq_getElem?_getD, List.getElem?_append_right (by omega), e1, List.getElem?_append_left (by omega), List.getD_eq_getElem?_getD]
  congr 2
  omega
/-- cells that lie in a row read as a slice -/
theorem Blk.sl {w : World} {b : Nat} {t : TypeId} {L : List Value} (h : Blk w b t L) (o : Nat) (vs : List Value) (n c B : Nat) (hn : vs.length = n) (hl : o + n ≤ L.length) (hv : ∀ i, i < n → L.getD (o + i) undef = vs.getD i undef) (hc : n ≤ c) (hB : b < B) :
    Sl w B (.slice (some ⟨b, o, none⟩) n c) vs := by
  subst hn
  exact Sl.mk (h.rd hl hv) hc hB
end Go.Proofs.YtpcnmgldmnncoaaGreatDoor

namespace Go.Proofs.YtpcnmgldmnncoaaGreatDoor
open Go.RowKit Dig
set_option linter.unusedVariables false
set_option linter.unusedSimpArgs false

def Ow (w : World) (H : Nat) (v : Value) (m : Nat) : Prop :=
  ∃ (a : Option Addr) (n c : Nat) (ws : List Nat), v = .slice a n c ∧ Rep 18446744073709551616 ws m ∧ ws.length = n ∧ n ≤ c ∧ c ≤ 1048576 ∧ ((a = none ∧ c = 0) ∨ ∃ b L, a = some ⟨b, 0, none⟩ ∧ H ≤ b ∧ (L.length = c ∧ 0 < c) ∧ Blk w b 79 L ∧ L.take n = ws.map wv)
theorem Ow.below {w w' : World} {H : Nat} {v : Value} {m : Nat} (h : Ow w H v m) (hb : Below w.heap.size w w') : Ow w' H v m := by
  obtain ⟨a, n, c, ws, h1, h2, h3, h4, h5, h6⟩ := h
  refine ⟨a, n, c, ws, h1, h2, h3, h4, h5, ?_⟩
  rcases h6 with h6 | ⟨b, L, k1, k2, k3, k4, k5⟩
  · exact .inl h6
  · exact .inr ⟨b, L, k1, k2, k3, k4.below hb k4.lt, k5⟩
/-- every row of words is kept -/
theorem Ow.rows {w w' : World} {H : Nat} {v : Value} {m : Nat} (h : Ow w H v m) (hb : ∀ b L, Blk w b 79 L → Blk w' b 79 L) : Ow w' H v m := by
  obtain ⟨a, n, c, ws, h1, h2, h3, h4, h5, h6⟩ := h
  refine ⟨a, n, c, ws, h1, h2, h3, h4, h5, ?_⟩
  rcases h6 with h6 | ⟨b, L, k1, k2, k3, k4, k5⟩
  · exact .inl h6
  · exact .inr ⟨b, L, k1, k2, k3, hb _ _ k4, k5⟩
theorem Ow.mono {w : World} {H H' : Nat} {v : Value} {m : Nat} (h : Ow w H v m) (hH : H' ≤ H) : Ow w H' v m := by
  obtain ⟨a, n, c, ws, h1, h2, h3, h4, h5, h6⟩ := h
  refine ⟨a, n, c, ws, h1, h2, h3, h4, h5, ?_⟩
  rcases h6 with h6 | ⟨b, L, k1, k2, k3, k4, k5⟩
  · exact .inl h6
  · exact .inr ⟨b, L, k1, by omega, k3, k4, k5⟩
theorem Ow.drewN {w : World} {H : Nat} {v : Value} {m : Nat} (h : Ow w H v m) (n : Nat) : Ow (w.drewN n) H v m := h
theorem take_getD {L : List Value} {n i : Nat} (h : i < n) : (L.take n).getD i undef = L.getD i undef := by
  rw [List.getD_eq_getElem?_getD, List.getD_eq_getElem?_getD, List.getElem?_take, if_pos h]
theorem Ow.nt {w : World} {H : Nat} {v : Value} {m : Nat} (h : Ow w H v m) : Nt w w.heap.size v m := by
  obtain ⟨a, n, c, ws, rfl, h2, h3, h4, h5, h6⟩ := h
  refine ⟨ws, h2, a, c, by simp [h3], by simpa [h3] using h4, fun h0 => ?_⟩
  have hw0 : ws ≠ [] := by intro e; apply h0; rw [e]; rfl
  rcases h6 with ⟨_, h6⟩ | ⟨b, L, k1, k2, k3, k4, k5⟩
  · exfalso; apply hw0; apply List.eq_nil_of_length_eq_zero; omega
  · refine ⟨b, 0, k1, k4.lt, fun i hi => ?_⟩
    have hi' : i < n := by simpa [h3] using hi
    rw [Nat.zero_add, k4.cell i (by have := k3.1; omega), ← k5, take_getD hi']
theorem Ow.zero (w : World) (H : Nat) : Ow w H (.slice none 0 0) 0 := ⟨none, 0, 0, [], rfl, ⟨by simp, rfl, by simp [Nrm]⟩, rfl, Nat.le_refl _, by omega, .inl ⟨rfl, rfl⟩⟩
theorem splice0_take (L cs : List Value) (h : cs.length ≤ L.length) : (splice L 0 cs).take cs.length = cs := by
  unfold splice
  rw [List.take_zero, List.nil_append, List.take_append_of_le_length (by omega), List.take_of_length_le (by omega)]
/-- a row of words, without the zeros at its end -/
theorem Ow.of_row {w : World} {H b N Q c : Nat} {L : List Value} (hk : Blk w b 79 (splice L 0 ((dgs 18446744073709551616 N Q).map wv))) (hL : L.length = c) (hN : N ≤ c) (hc0 : 0 < c) (hc : c ≤ 1048576) (hQ : Q < 18446744073709551616 ^ N) (hH : H ≤ b) : Ow w H (.slice (some ⟨b, 0, none⟩) (strip (dgs 18446744073709551616 N Q)).length c) Q := by
  have hl := strip_length (dgs 18446744073709551616 N Q)
  rw [dgs_length] at hl
  have hr := strip_rep 18446744073709551616 (dgs 18446744073709551616 N Q) (dgs_lt _ (by omega) _ _)
  rw [dgs_val_of _ _ _ hQ] at hr
  refine ⟨_, _, _, strip (dgs 18446744073709551616 N Q), rfl, hr, rfl, by omega, hc, .inr ⟨b, _, rfl, hH, ⟨by rw [length_splice _ _ _ (by simp [dgs_length]; omega)]; exact hL, hc0⟩, hk, ?_⟩⟩
  have e := splice0_take L ((dgs 18446744073709551616 N Q).map wv) (by simp [dgs_length]; omega)
  rw [List.length_map, dgs_length] at e
  have e2 := congrArg (List.take (strip (dgs 18446744073709551616 N Q)).length) e
  rw [List.take_take, Nat.min_eq_left hl] at e2
  rw [e2, ← List.map_take, ← strip_take]
theorem Ow.sl_row {w : World} {b N Q c : Nat} {L : List Value} (hk : Blk w b 79 (splice L 0 ((dgs 18446744073709551616 N Q).map wv))) (hL : L.length = c) (hN : N ≤ c) : Sl w w.heap.size (.slice (some ⟨b, 0, none⟩) (dgs 18446744073709551616 N Q).length c) ((dgs 18446744073709551616 N Q).map wv) := by
  refine ⟨some ⟨b, 0, none⟩, c, by simp, by simp [dgs_length]; exact hN, fun _ => ⟨b, 0, rfl, hk.lt, fun i hi => ?_⟩⟩
  have hi' : i < N := by simpa [dgs_length] using hi
  rw [hk.cell (0 + i) (by rw [length_splice _ _ _ (by simp [dgs_length]; omega)]; omega)]
  rw [splice_getD _ _ _ (by simp [dgs_length]; omega) i hi]
end Go.Proofs.YtpcnmgldmnncoaaGreatDoor

namespace Go.Proofs.YtpcnmgldmnncoaaGreatDoor
open Go.RowKit Dig
set_option linter.unusedVariables false
set_option linter.unusedSimpArgs false
set_option maxRecDepth 100000

theorem add64_run (x y c : Nat) (hc : c ≤ 1) (w : World) :
    (callFunc 111 #[.int .u64 x, .int .u64 y, .int .u64 c]).run Tryz.prog w =
      .ok (.value (.tuple #[.int .u64 (((x + y + c) % 18446744073709551616 : Nat) : Int), .int .u64 (((x + y + c) / 18446744073709551616 : Nat) : Int)])) w := by
  rw [run_callFunc_extern Tryz.func111 (by kernel_rfl) (by kernel_rfl) (by kernel_rfl) (e := add64Entry) (by kernel_rfl), run_add64 x y c (by omega) (by omega) (by omega) (by omega)]
  simp only [Result.andThen]
  congr 5 <;> omega
theorem sub64_run (x y b : Nat) (hb : b ≤ 1) (w : World) :
    (callFunc 113 #[.int .u64 x, .int .u64 y, .int .u64 b]).run Tryz.prog w =
      .ok (.value (.tuple #[.int .u64 (((x + 18446744073709551616 - y - b) % 18446744073709551616 : Nat) : Int), .int .u64 ((if x < y + b then 1 else 0 : Nat) : Int)])) w := by
  rw [run_callFunc_extern Tryz.func113 (by kernel_rfl) (by kernel_rfl) (by kernel_rfl) (e := sub64Entry) (by kernel_rfl), run_sub64 x y b hb]
  rfl

/-- two words returned, nothing done -/
def TwoPost (p q : Nat) (w : World) (e : Ending) (w' : World) : Prop := e = .returned (.tuple #[.int .u64 p, .int .u64 q]) ∧ w = w'
theorem bitsAdd_any (x y c : Nat) (w : World) (hc : c ≤ 1) :
    Calls Tryz.prog 86 #[.int .u64 x, .int .u64 y, .int .u64 c] w (TwoPost ((x + y + c) % 18446744073709551616) ((x + y + c) / 18446744073709551616) w) := by
  have hr := add64_run x y c hc
  generalize (x + y + c) % 18446744073709551616 = p at *
  generalize (x + y + c) / 18446744073709551616 = q at *
  go_enter Tryz.func86, Tryz.ntmps86
  go_wp2_with fail
  go_ret2
  exact ⟨rfl, rfl⟩
theorem bitsSub_any (x y b : Nat) (w : World) (hb : b ≤ 1) :
    Calls Tryz.prog 88 #[.int .u64 x, .int .u64 y, .int .u64 b] w (TwoPost ((x + 18446744073709551616 - y - b) % 18446744073709551616) (if x < y + b then 1 else 0) w) := by
  have hr := sub64_run x y b hb
  generalize (x + 18446744073709551616 - y - b) % 18446744073709551616 = p at *
  generalize (if x < y + b then 1 else 0) = q at *
  go_enter Tryz.func88, Tryz.ntmps88
  go_wp2_with fail
  go_ret2
  exact ⟨rfl, rfl⟩

/-- it returns a word; the row of block b is written -/
def VecPost (b : Nat) (L : List Value) (c : Nat) (w : World) (e : Ending) (w' : World) : Prop :=
  e = .returned (.int .u64 c) ∧ Blk w' b 79 L ∧ Up (some b) w w'

/-- the sum of the first k words of two numbers -/
def sumK (xs ys : List Nat) (k : Nat) : Nat := nval 18446744073709551616 (xs.take k) + nval 18446744073709551616 (ys.take k)
theorem take_lt {xs : List Nat} (h : ∀ x ∈ xs, x < 18446744073709551616) (k : Nat) : nval 18446744073709551616 (xs.take k) < 18446744073709551616 ^ k := by
  have h1 := nval_lt 18446744073709551616 (xs.take k) (fun x hx => h x (List.mem_of_mem_take hx))
  exact Nat.lt_of_lt_of_le h1 (Nat.pow_le_pow_right (by omega) (by simp; omega))
theorem sumK_carry {xs ys : List Nat} (h1 : ∀ x ∈ xs, x < 18446744073709551616) (h2 : ∀ x ∈ ys, x < 18446744073709551616) (k : Nat) : sumK xs ys k / 18446744073709551616 ^ k ≤ 1 := by
  have a := take_lt h1 k
  have b := take_lt h2 k
  unfold sumK
  have : (nval 18446744073709551616 (xs.take k) + nval 18446744073709551616 (ys.take k)) / 18446744073709551616 ^ k < 2 := by
    rw [Nat.div_lt_iff_lt_mul (Nat.pow_pos (by omega))]; omega
  omega
theorem sumK_succ (xs ys : List Nat) (k : Nat) (h1 : k < xs.length) (h2 : k < ys.length) : sumK xs ys (k + 1) = sumK xs ys k + 18446744073709551616 ^ k * (xs.getD k 0 + ys.getD k 0) := by
  unfold sumK
  rw [nval_take_succ _ xs k h1, nval_take_succ _ ys k h2, Nat.mul_add]
  omega
theorem getD_lt {xs : List Nat} {B : Nat} (h : ∀ x ∈ xs, x < B) (k : Nat) (hk : k < xs.length) : xs.getD k 0 < B :=
  h _ (by rw [List.getD_eq_getElem?_getD, List.getElem?_eq_getElem hk]; simp)

/-- the cell k of a slice of words -/
theorem Sl.word {w : World} {B : Nat} {a : Option Addr} {n c : Nat} {xs : List Nat} (h : Sl w B (.slice a n c) (xs.map wv)) (k : Nat) (hk : k < xs.length) :
    ∃ b o, a = some ⟨b, o, none⟩ ∧ b < B ∧ n = xs.length ∧ w.cell? ⟨b, o + k, none⟩ = some (.int .u64 ((xs.getD k 0 : Nat) : Int)) := by
  obtain ⟨a', c', hv, hc, hr⟩ := h
  simp only [Value.slice.injEq] at hv
  obtain ⟨rfl, rfl, rfl⟩ := hv
  obtain ⟨b, o, ha, hb, hrd⟩ := hr (by intro h0; rw [List.map_eq_nil_iff] at h0; subst h0; simp at hk)
  have := hrd k (by simpa using hk)
  rw [getD_map_wv xs k hk] at this
  exact ⟨b, o, ha, hb, by simp, this⟩

set_option maxHeartbeats 1600000 in
theorem addVVg_any (xs ys : List Nat) (L : List Value) (b o n cz B : Nat) (x y : Value) (w : World) (hx : Sl w B x (xs.map wv)) (hy : Sl w B y (ys.map wv)) (lx : xs.length = n) (ly : ys.length = n)
    (hxs : ∀ x ∈ xs, x < 18446744073709551616) (hys : ∀ x ∈ ys, x < 18446744073709551616) (hB : B ≤ b) (hBw : B ≤ w.heap.size) (hk : Blk w b 79 L) (hn : o + n ≤ L.length) (hl : n ≤ 1048576) :
    Calls Tryz.prog 85 #[.slice (some ⟨b, o, none⟩) n cz, x, y] w
      (VecPost b (splice L o ((dgs 18446744073709551616 n (nval 18446744073709551616 xs + nval 18446744073709551616 ys)).map wv)) ((nval 18446744073709551616 xs + nval 18446744073709551616 ys) / 18446744073709551616 ^ n) w) := by
  obtain ⟨a1, c1, rfl, hc1, _⟩ := id hx
  obtain ⟨a2, c2, rfl, hc2, _⟩ := id hy
  simp only [List.length_map, lx, ly] at hx hy hc1 hc2 ⊢
  have hfin : sumK xs ys n = nval 18446744073709551616 xs + nval 18446744073709551616 ys := by
    unfold sumK; rw [List.take_of_length_le (by omega), List.take_of_length_le (by omega)]
  rw [← hfin]
  have HX := Lib.hid hx
  have HY := Lib.hid hy
  have H1 := Lib.hid hxs
  have H2 := Lib.hid hys
  have LX := Lib.hid lx
  have LY := Lib.hid ly
  have HK := Lib.hid hk
  clear hx hy hxs hys lx ly hk hfin
  go_enter Tryz.func85, Tryz.ntmps85
  go_wp2_with fail
  go_loopw [6, 25] (fun c i wr => ∃ k : Nat, k ≤ n ∧ i = .int .i64 k ∧ c = .int .u64 ((sumK xs ys k / 18446744073709551616 ^ k : Nat) : Int) ∧ Hid (Blk wr b 79 (splice L o ((dgs 18446744073709551616 k (sumK xs ys k)).map wv))) ∧ Hid (Up (some b) w wr)) (fun _ i _ => n - (intOf i).toNat)
  case atStart => exact ⟨0, Nat.zero_le _, rfl, by simp [sumK, nval], Lib.hid (by simpa [dgs, splice_nil] using HK.out), Lib.hid (Up.refl _ _)⟩
  case round =>
    obtain ⟨k, hkn, rfl, rfl, hb, hu⟩ := hrel
    by_cases hlt : k < n
    · obtain ⟨b1, o1, rfl, hb1, _, q1⟩ := (HX.out.up hu.out hBw hB).word k (by rw [LX.out]; exact hlt)
      obtain ⟨b2, o2, rfl, hb2, _, q2⟩ := (HY.out.up hu.out hBw hB).word k (by rw [LY.out]; exact hlt)
      have hlen : (splice L o ((dgs 18446744073709551616 k (sumK xs ys k)).map wv)).length = L.length := length_splice _ _ _ (by simp [dgs_length]; omega)
      have hcell := hb.out.cell (o + k) (by rw [hlen]; omega)
      have hf := hb.out.free (o + k)
      have hcar := sumK_carry H1.out H2.out k
      have hst := dgs_step 18446744073709551616 k (sumK xs ys k) (xs.getD k 0 + ys.getD k 0) (by omega)
      rw [← sumK_succ xs ys k (by rw [LX.out]; exact hlt) (by rw [LY.out]; exact hlt)] at hst
      have hset := splice_set L o k ((dgs 18446744073709551616 k (sumK xs ys k)).map wv) (wv ((sumK xs ys k / 18446744073709551616 ^ k + (xs.getD k 0 + ys.getD k 0)) % 18446744073709551616)) (by simp [dgs_length]) (by omega)
      have e3 : (dgs 18446744073709551616 k (sumK xs ys k)).map wv ++ [wv ((sumK xs ys k / 18446744073709551616 ^ k + (xs.getD k 0 + ys.getD k 0)) % 18446744073709551616)] = (dgs 18446744073709551616 (k + 1) (sumK xs ys (k + 1))).map wv := by rw [hst.1]; simp
      rw [e3] at hset
      have Q : ∀ m, Calls Tryz.prog 86 #[.int .u64 (xs.getD k 0 : Nat), .int .u64 (ys.getD k 0 : Nat), .int .u64 ((sumK xs ys k / 18446744073709551616 ^ k : Nat) : Int)] (wr.drewN m) fun e w'' => e = .returned (.tuple #[.int .u64 (((sumK xs ys k / 18446744073709551616 ^ k + (xs.getD k 0 + ys.getD k 0)) % 18446744073709551616 : Nat) : Int), .int .u64 ((sumK xs ys (k + 1) / 18446744073709551616 ^ (k + 1) : Nat) : Int)]) ∧ ∃ m', w'' = wr.drewN m' := by
        intro m
        refine (bitsAdd_any _ _ _ _ hcar).mono ?_
        rintro e w' ⟨rfl, rfl⟩
        refine ⟨?_, m, rfl⟩
        rw [hst.2, Nat.add_comm (sumK xs ys k / 18446744073709551616 ^ k)]
      have QQ := Lib.hid Q
      have HSET := Lib.hid hset
      have g1 := getD_lt H1.out k (by rw [LX.out]; exact hlt)
      have g2 := getD_lt H2.out k (by rw [LY.out]; exact hlt)
      have hb3 : (sumK xs ys k / 18446744073709551616 ^ k + (xs.getD k 0 + ys.getD k 0)) % 18446744073709551616 < 18446744073709551616 := Nat.mod_lt _ (by omega)
      clear hst e3 hset Q hlen
      generalize (sumK xs ys k / 18446744073709551616 ^ k + (xs.getD k 0 + ys.getD k 0)) % 18446744073709551616 = d at *
      generalize sumK xs ys k / 18446744073709551616 ^ k = c at *
      generalize hc' : sumK xs ys (k + 1) / 18446744073709551616 ^ (k + 1) = c' at *
      have HC' := Lib.hid hc'
      clear hc'
      generalize (splice L o ((dgs 18446744073709551616 k (sumK xs ys k)).map wv)).getD (o + k) undef = cv at *
      generalize xs.getD k 0 = u at *
      generalize ys.getD k 0 = v at *
      have hi1 : (0 : Int) ≤ (k : Int) := by omega
      have hi2 : (k : Int) < (n : Int) := by omega
      go_wp2_with fail
      go_quiet ((go_at_call 86; exact QQ.out _))
      go_wp2_with fail
      go_roundw
      case rel =>
        refine ⟨k + 1, by omega, by go_num, by rw [HC'.out], Lib.hid ?_, Lib.hid ((hu.out.drewN _).set _ _)⟩
        have := (hb.out.drewN nq).set (o + k) (wv d)
        rw [HSET.out] at this
        exact this
      case measure => simp [intOf]; omega
    · obtain rfl : k = n := by omega
      go_wp2_with fail
      go_ret
      exact ⟨rfl, hb.out, hu.out⟩
/-- the difference of the first k words of two numbers, and what is borrowed -/
def difK (xs ys : List Nat) (k : Nat) : Nat := nval 18446744073709551616 (xs.take k) + 18446744073709551616 ^ k - nval 18446744073709551616 (ys.take k)
def borK (xs ys : List Nat) (k : Nat) : Nat := if nval 18446744073709551616 (xs.take k) < nval 18446744073709551616 (ys.take k) then 1 else 0
theorem borK_le (xs ys : List Nat) (k : Nat) : borK xs ys k ≤ 1 := by unfold borK; split <;> omega
theorem difK_succ {xs ys : List Nat} (h1 : ∀ x ∈ xs, x < 18446744073709551616) (h2 : ∀ x ∈ ys, x < 18446744073709551616) (k : Nat) (hx : k < xs.length) (hy : k < ys.length) :
    dgs 18446744073709551616 (k + 1) (difK xs ys (k + 1)) = dgs 18446744073709551616 k (difK xs ys k) ++ [(xs.getD k 0 + 18446744073709551616 - ys.getD k 0 - borK xs ys k) % 18446744073709551616] ∧
    borK xs ys (k + 1) = if xs.getD k 0 < ys.getD k 0 + borK xs ys k then 1 else 0 := by
  unfold difK borK
  rw [nval_take_succ _ xs k hx, nval_take_succ _ ys k hy]
  exact sub_step 18446744073709551616 k _ _ _ _ (by omega) (take_lt h1 k) (take_lt h2 k) (getD_lt h2 k hy)

set_option maxHeartbeats 1600000 in
theorem subVVg_any (xs ys : List Nat) (L : List Value) (b o n cz B : Nat) (x y : Value) (w : World) (hx : Sl w B x (xs.map wv)) (hy : Sl w B y (ys.map wv)) (lx : xs.length = n) (ly : ys.length = n)
    (hxs : ∀ x ∈ xs, x < 18446744073709551616) (hys : ∀ x ∈ ys, x < 18446744073709551616) (hB : B ≤ b) (hBw : B ≤ w.heap.size) (hk : Blk w b 79 L) (hn : o + n ≤ L.length) (hl : n ≤ 1048576) :
    Calls Tryz.prog 87 #[.slice (some ⟨b, o, none⟩) n cz, x, y] w
      (VecPost b (splice L o ((dgs 18446744073709551616 n (nval 18446744073709551616 xs + 18446744073709551616 ^ n - nval 18446744073709551616 ys)).map wv)) (if nval 18446744073709551616 xs < nval 18446744073709551616 ys then 1 else 0) w) := by
  obtain ⟨a1, c1, rfl, hc1, _⟩ := id hx
  obtain ⟨a2, c2, rfl, hc2, _⟩ := id hy
  simp only [List.length_map, lx, ly] at hx hy hc1 hc2 ⊢
  have hfin : difK xs ys n = nval 18446744073709551616 xs + 18446744073709551616 ^ n - nval 18446744073709551616 ys := by
    unfold difK; rw [List.take_of_length_le (by omega), List.take_of_length_le (by omega)]
  have hfin2 : borK xs ys n = if nval 18446744073709551616 xs < nval 18446744073709551616 ys then 1 else 0 := by
    unfold borK; rw [List.take_of_length_le (by omega), List.take_of_length_le (by omega)]
  rw [← hfin, ← hfin2]
  have HX := Lib.hid hx
  have HY := Lib.hid hy
  have H1 := Lib.hid hxs
  have H2 := Lib.hid hys
  have LX := Lib.hid lx
  have LY := Lib.hid ly
  have HK := Lib.hid hk
  clear hx hy hxs hys lx ly hk hfin hfin2
  go_enter Tryz.func87, Tryz.ntmps87
  go_wp2_with fail
  go_loopw [6, 25] (fun c i wr => ∃ k : Nat, k ≤ n ∧ i = .int .i64 k ∧ c = .int .u64 ((borK xs ys k : Nat) : Int) ∧ Hid (Blk wr b 79 (splice L o ((dgs 18446744073709551616 k (difK xs ys k)).map wv))) ∧ Hid (Up (some b) w wr)) (fun _ i _ => n - (intOf i).toNat)
  case atStart => exact ⟨0, Nat.zero_le _, rfl, by simp [borK, nval], Lib.hid (by simpa [dgs, splice_nil] using HK.out), Lib.hid (Up.refl _ _)⟩
  case round =>
    obtain ⟨k, hkn, rfl, rfl, hb, hu⟩ := hrel
    by_cases hlt : k < n
    · obtain ⟨b1, o1, rfl, hb1, _, q1⟩ := (HX.out.up hu.out hBw hB).word k (by rw [LX.out]; exact hlt)
      obtain ⟨b2, o2, rfl, hb2, _, q2⟩ := (HY.out.up hu.out hBw hB).word k (by rw [LY.out]; exact hlt)
      have hlen : (splice L o ((dgs 18446744073709551616 k (difK xs ys k)).map wv)).length = L.length := length_splice _ _ _ (by simp [dgs_length]; omega)
      have hcell := hb.out.cell (o + k) (by rw [hlen]; omega)
      have hf := hb.out.free (o + k)
      have hcar := borK_le xs ys k
      have hst := difK_succ H1.out H2.out k (by rw [LX.out]; exact hlt) (by rw [LY.out]; exact hlt)
      have hset := splice_set L o k ((dgs 18446744073709551616 k (difK xs ys k)).map wv) (wv ((xs.getD k 0 + 18446744073709551616 - ys.getD k 0 - borK xs ys k) % 18446744073709551616)) (by simp [dgs_length]) (by omega)
      have e3 : (dgs 18446744073709551616 k (difK xs ys k)).map wv ++ [wv ((xs.getD k 0 + 18446744073709551616 - ys.getD k 0 - borK xs ys k) % 18446744073709551616)] = (dgs 18446744073709551616 (k + 1) (difK xs ys (k + 1))).map wv := by rw [hst.1]; simp
      rw [e3] at hset
      have Q : ∀ m, Calls Tryz.prog 88 #[.int .u64 (xs.getD k 0 : Nat), .int .u64 (ys.getD k 0 : Nat), .int .u64 ((borK xs ys k : Nat) : Int)] (wr.drewN m) fun e w'' => e = .returned (.tuple #[.int .u64 (((xs.getD k 0 + 18446744073709551616 - ys.getD k 0 - borK xs ys k) % 18446744073709551616 : Nat) : Int), .int .u64 ((borK xs ys (k + 1) : Nat) : Int)]) ∧ ∃ m', w'' = wr.drewN m' := by
        intro m
        refine (bitsSub_any _ _ _ _ hcar).mono ?_
        rintro e w' ⟨rfl, rfl⟩
        refine ⟨?_, m, rfl⟩
        rw [hst.2]
      have QQ := Lib.hid Q
      have HSET := Lib.hid hset
      have g1 := getD_lt H1.out k (by rw [LX.out]; exact hlt)
      have g2 := getD_lt H2.out k (by rw [LY.out]; exact hlt)
      have hb3 : (xs.getD k 0 + 18446744073709551616 - ys.getD k 0 - borK xs ys k) % 18446744073709551616 < 18446744073709551616 := Nat.mod_lt _ (by omega)
      clear hst e3 hset Q hlen
      generalize (xs.getD k 0 + 18446744073709551616 - ys.getD k 0 - borK xs ys k) % 18446744073709551616 = d at *
      generalize borK xs ys k = c at *
      generalize hc' : borK xs ys (k + 1) = c' at *
      have HC' := Lib.hid hc'
      clear hc'
      generalize (splice L o ((dgs 18446744073709551616 k (difK xs ys k)).map wv)).getD (o + k) undef = cv at *
      generalize xs.getD k 0 = u at *
      generalize ys.getD k 0 = v at *
      have hi1 : (0 : Int) ≤ (k : Int) := by omega
      have hi2 : (k : Int) < (n : Int) := by omega
      go_wp2_with fail
      go_quiet ((go_at_call 88; exact QQ.out _))
      go_wp2_with fail
      go_roundw
      case rel =>
        refine ⟨k + 1, by omega, by go_num, by rw [HC'.out], Lib.hid ?_, Lib.hid ((hu.out.drewN _).set _ _)⟩
        have := (hb.out.drewN nq).set (o + k) (wv d)
        rw [HSET.out] at this
        exact this
      case measure => simp [intOf]; omega
    · obtain rfl : k = n := by omega
      go_wp2_with fail
      go_ret
      exact ⟨rfl, hb.out, hu.out⟩
theorem addVV_any (xs ys : List Nat) (L : List Value) (b o n cz B : Nat) (x y : Value) (w : World) (hx : Sl w B x (xs.map wv)) (hy : Sl w B y (ys.map wv)) (lx : xs.length = n) (ly : ys.length = n)
    (hxs : ∀ x ∈ xs, x < 18446744073709551616) (hys : ∀ x ∈ ys, x < 18446744073709551616) (hB : B ≤ b) (hBw : B ≤ w.heap.size) (hk : Blk w b 79 L) (hn : o + n ≤ L.length) (hl : n ≤ 1048576) :
    Calls Tryz.prog 65 #[.slice (some ⟨b, o, none⟩) n cz, x, y] w
      (VecPost b (splice L o ((dgs 18446744073709551616 n (nval 18446744073709551616 xs + nval 18446744073709551616 ys)).map wv)) ((nval 18446744073709551616 xs + nval 18446744073709551616 ys) / 18446744073709551616 ^ n) w) := by
  have C := Lib.hid (addVVg_any xs ys L b o n cz B x y w hx hy lx ly hxs hys hB hBw hk hn hl)
  obtain ⟨a1, c1, rfl, _⟩ := id hx
  obtain ⟨a2, c2, rfl, _⟩ := id hy
  simp only [List.length_map, lx, ly] at C ⊢
  clear hx hy lx ly hxs hys hk
  generalize splice L o _ = L' at *
  generalize (nval 18446744073709551616 xs + nval 18446744073709551616 ys) / 18446744073709551616 ^ n = q at *
  go_enter Tryz.func65, Tryz.ntmps65
  go_wp2_with fail
  refine C.out.mono ?_
  rintro e w' ⟨rfl, h1, h2⟩
  have H1 := Lib.hid h1
  have H2 := Lib.hid h2
  clear h1 h2
  go_wp2_with fail
  go_ret
  exact ⟨rfl, H1.out, H2.out⟩
theorem subVV_any (xs ys : List Nat) (L : List Value) (b o n cz B : Nat) (x y : Value) (w : World) (hx : Sl w B x (xs.map wv)) (hy : Sl w B y (ys.map wv)) (lx : xs.length = n) (ly : ys.length = n)
    (hxs : ∀ x ∈ xs, x < 18446744073709551616) (hys : ∀ x ∈ ys, x < 18446744073709551616) (hB : B ≤ b) (hBw : B ≤ w.heap.size) (hk : Blk w b 79 L) (hn : o + n ≤ L.length) (hl : n ≤ 1048576) :
    Calls Tryz.prog 67 #[.slice (some ⟨b, o, none⟩) n cz, x, y] w
      (VecPost b (splice L o ((dgs 18446744073709551616 n (nval 18446744073709551616 xs + 18446744073709551616 ^ n - nval 18446744073709551616 ys)).map wv)) (if nval 18446744073709551616 xs < nval 18446744073709551616 ys then 1 else 0) w) := by
  have C := Lib.hid (subVVg_any xs ys L b o n cz B x y w hx hy lx ly hxs hys hB hBw hk hn hl)
  obtain ⟨a1, c1, rfl, _⟩ := id hx
  obtain ⟨a2, c2, rfl, _⟩ := id hy
  simp only [List.length_map, lx, ly] at C ⊢
  clear hx hy lx ly hxs hys hk
  generalize splice L o _ = L' at *
  generalize (if nval 18446744073709551616 xs < nval 18446744073709551616 ys then 1 else 0) = q at *
  go_enter Tryz.func67, Tryz.ntmps67
  go_wp2_with fail
  refine C.out.mono ?_
  rintro e w' ⟨rfl, h1, h2⟩
  have H1 := Lib.hid h1
  have H2 := Lib.hid h2
  clear h1 h2
  go_wp2_with fail
  go_ret
  exact ⟨rfl, H1.out, H2.out⟩
end Go.Proofs.YtpcnmgldmnncoaaGreatDoor
