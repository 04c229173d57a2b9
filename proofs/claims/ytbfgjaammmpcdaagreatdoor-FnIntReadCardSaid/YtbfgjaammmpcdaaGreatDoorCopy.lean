/- The builtin copy into a row of the call's own, nothing else turned; rows into which cells are laid. No function of the program. -/
import Derived.Test.YtbfgjaammmpcdaaGreatDoorMBase
import Derived.Laws.CopyOwn
namespace Go.Proofs.YtbfgjaammmpcdaaGreatDoor
open Go.RowKit Dig
set_option linter.unusedVariables false
set_option linter.unusedSimpArgs false

theorem splice_nil (L : List Value) (o : Nat) : splice L o [] = L := by simp [splice]
theorem up_setRow {g : Nat} {w0 w : World} (hb : Up (some g) w0 w) (cs : Array Value) : Up (some g) w0 (w.setRow g cs) :=
  hb.trans ⟨rfl, rfl, rfl, by simp [World.setRow], fun k _ hr => setRow_other w g k cs (by simpa using hr)⟩

section
variable {P : Program}
theorem wpList_copy_up {w : World} {ops : Array Oper} {rest : List Oper} {o : Oper} {a : Act} {Q : Exit → Act → World → Prop} (hgd : o.guard = none) (d s : Operand) (dT sT : TypeId)
    (ho : o.op = .call { callee := .builtin .copy, args := #[d, s], argTypes := #[dT, sT] }) (elem : TypeId) (hu : P.underlying dT = some (.slice elem)) (hsz : (P.info? elem).map (·.size) = some 1)
    (dp sp : Option Addr) (dLen dCap sLen sCap : Nat) (hd : a.eval d = .slice dp dLen dCap) (hs : a.eval s = .slice sp sLen sCap)
    (g off : Nat) (cur : List Value) (t : TypeId) (hg : Blk w g t cur) (cs : List Value) (hn : cs.length = Nat.min sLen dLen)
    (hpos : 0 < cs.length → dp = some ⟨g, off, none⟩ ∧ ∃ ad, sp = some ad ∧ ∀ j v, cs[j]? = some v → w.cell? (ad.add j) = some v)
    (hfit : off + cs.length ≤ cur.length) (h1 : ∀ v ∈ cs, v.oneCell' = true) (w0 : World) (hb : Up (some g) w0 w)
    (h : ∀ w', Hid (Blk w' g t (splice cur off cs)) → Hid (Up (some g) w0 w') → wpList P ops Q rest (a.put o.dst (goInt cs.length)) w') :
    wpList P ops Q (o :: rest) a w := by
  by_cases h0 : cs.length = 0
  · obtain rfl : cs = [] := List.eq_nil_of_length_eq_zero h0
    refine wpList_copy_nothing hgd d s dT sT ho elem hu hsz dp sp dLen dCap sLen sCap hd hs (by simpa using hn.symm) ?_
    exact h w (show Blk w g t (splice cur off []) by rw [splice_nil]; exact hg) hb
  · obtain ⟨rfl, ad, rfl, hsrc⟩ := hpos (by omega)
    refine wpList_copy_own hgd d s dT sT ho elem hu hsz g off dLen dCap ad sLen sCap hd hs cur.toArray t hg cs hn hsrc (by simpa using hfit) h1 ?_
    exact h _ (show _ = _ by simpa [splice] using setRow_heap w g _ _ t _ hg) (up_setRow hb _)
theorem step_copy_up {ops : Array Oper} {o : Oper} {a : Act} {w : World} {K : Act → World → Prop} {Q : Exit → Act → World → Prop} {E : Prop} (hgd : o.guard = none) (d s : Operand) (dT sT : TypeId)
    (ho : o.op = .call { callee := .builtin .copy, args := #[d, s], argTypes := #[dT, sT] }) (elem : TypeId) (hu : P.underlying dT = some (.slice elem)) (hsz : (P.info? elem).map (·.size) = some 1)
    (dp sp : Option Addr) (dLen dCap sLen sCap : Nat) (hd : a.eval d = .slice dp dLen dCap) (hs : a.eval s = .slice sp sLen sCap)
    (g off : Nat) (cur : List Value) (t : TypeId) (hg : Blk w g t cur) (cs : List Value) (hn : cs.length = Nat.min sLen dLen)
    (hpos : 0 < cs.length → dp = some ⟨g, off, none⟩ ∧ ∃ ad, sp = some ad ∧ ∀ j v, cs[j]? = some v → w.cell? (ad.add j) = some v)
    (hfit : off + cs.length ≤ cur.length) (h1 : ∀ v ∈ cs, v.oneCell' = true) (w0 : World) (hb : Up (some g) w0 w)
    (h : ∀ w', Hid (Blk w' g t (splice cur off cs)) → Hid (Up (some g) w0 w') → K (a.put o.dst (goInt cs.length)) w') :
    if Region.wanted o (yielded ops a.tmps) = true then Oper.wp P o a w K Q else E := by
  have hw : Region.wanted o (yielded ops a.tmps) = true := by simp [Region.wanted, hgd]
  rw [if_pos hw]
  by_cases h0 : cs.length = 0
  · obtain rfl : cs = [] := List.eq_nil_of_length_eq_zero h0
    have hrun := run_copy_none (P := P) w dT sT o.type elem dp sp dLen dCap sLen sCap hu hsz (by simpa using hn.symm)
    unfold Oper.wp
    simp [execOp, ho, resolve, invoke, builtin, hd, hs, hrun, Result.andThen]
    exact h w (show Blk w g t (splice cur off []) by rw [splice_nil]; exact hg) hb
  · obtain ⟨rfl, ad, rfl, hsrc⟩ := hpos (by omega)
    have hrun := run_copy_row (P := P) w dT sT o.type elem g off dLen dCap ad sLen sCap cur.toArray t cs hu hsz hg hn hsrc (by simpa using hfit) h1
    unfold Oper.wp
    simp [execOp, ho, resolve, invoke, builtin, hd, hs, hrun, Result.andThen]
    exact h _ (show _ = _ by simpa [splice] using setRow_heap w g _ _ t _ hg) (up_setRow hb _)
end

/-- a row into which cells are laid from place o on -/
theorem splice_set (L : List Value) (o k : Nat) (cs : List Value) (v : Value) (hk : cs.length = k) (h : o + k < L.length) : (splice L o cs).set (o + k) v = splice L o (cs ++ [v]) := by
  subst hk
  unfold splice
  have e1 : (L.take o).length = o := by simp; omega
  rw [List.set_append_right _ _ (by omega), e1, List.set_append_right _ _ (by omega)]
  rw [List.drop_eq_getElem_cons h]
  have e2 : o + cs.length - o - cs.length = 0 := by omega
  rw [e2]
  simp [List.append_assoc, Nat.add_assoc]
theorem splice_splice (L : List Value) (o : Nat) (A B : List Value) (h : o + A.length + B.length ≤ L.length) : splice (splice L o A) (o + A.length) B = splice L o (A ++ B) := by
  have e1 : (L.take o).length = o := by simp; omega
  have e0 : (L.take o ++ A).length = o + A.length := by simp; omega
  unfold splice
  have e2 : (L.take o ++ (A ++ L.drop (o + A.length))).take (o + A.length) = L.take o ++ A := by
    rw [← List.append_assoc, List.take_left' e0]
  have e3 : (L.take o ++ (A ++ L.drop (o + A.length))).drop (o + A.length + B.length) = L.drop (o + A.length + B.length) := by
    rw [← List.append_assoc, ← List.drop_drop, List.drop_left' e0, List.drop_drop]
  rw [e2, e3]
  simp [List.append_assoc, Nat.add_assoc]
theorem splice_all (L : List Value) (cs : List Value) (h : cs.length = L.length) : splice L 0 cs = cs := by
  unfold splice
  rw [List.drop_of_length_le (by omega)]; simp
theorem splice_getD (L : List Value) (o : Nat) (cs : List Value) (h : o + cs.length ≤ L.length) (i : Nat) (hi : i < cs.length) : (splice L o cs).getD (o + i) undef = cs.getD i undef := by
  unfold splice
  have e1 : (L.take o).length = o := by simp; omega
  rw [List.getD_eq_getElem?_getD, List.getElem?_append_right (by omega), e1, List.getElem?_append_left (by omega), List.getD_eq_getElem?_getD]
  congr 2
  omega
/-- cells that lie in a row read as a slice -/
theorem Blk.sl {w : World} {b : Nat} {t : TypeId} {L : List Value} (h : Blk w b t L) (o : Nat) (vs : List Value) (n c B : Nat) (hn : vs.length = n) (hl : o + n ≤ L.length) (hv : ∀ i, i < n → L.getD (o + i) undef = vs.getD i undef) (hc : n ≤ c) (hB : b < B) :
    Sl w B (.slice (some ⟨b, o, none⟩) n c) vs := by
  subst hn
  exact Sl.mk (h.rd hl hv) hc hB
end Go.Proofs.YtbfgjaammmpcdaaGreatDoor
