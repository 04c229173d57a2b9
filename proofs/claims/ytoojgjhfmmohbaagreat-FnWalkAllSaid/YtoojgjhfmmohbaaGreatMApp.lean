/- Appends of what a slice reads as, onto a row of the call's own, at a plain statement and at one that draws its order; rows that a call hands back. A slice argument of a law as a list of bytes. -/
import Derived.Test.YtoojgjhfmmohbaaGreatMBase
import Derived.Maps.AppendAt
import Derived.Deep.RegionHeld3
import Derived.Deep.RegionLaw
import Derived.Deep.CutRange
namespace Go.Proofs.YtoojgjhfmmohbaaGreat
open Go.RowKit Dig
set_option linter.unusedVariables false
set_option linter.unusedSimpArgs false
section
variable {P : Program} (w : World)
theorem run_append_sl (base : Nat) (t ty e : TypeId) (i : TypeInfo) (z : Value) (bytes : Nat) (ht : P.underlying t = some (.slice e)) (hi : P.info? e = some i) (hz : i.zero = some z)
   (hsize : i.size = 1) (hby : i.bytes = bytes) (hzs : z.cells.size = 1)
   (v : Value) (n : Nat) (xs : List Value) (hown : w.ownsRow base e 1 v n xs)
   (B : Nat) (src : Value) (news : List Value) (hr : Sl w B src news) (h1 : ∀ u ∈ news, u.oneCell' = true)
   (h63 : n + news.length ≤ maxLen) (hbytes : (n + news.length) * bytes ≤ 140737488355328) (hbase : base ≤ w.heap.size) :
   ∃ v' w', (Builtin.append_ #[t, t] ty #[v, src]).run P w = .ok v' w' ∧ w'.ownsRow base e 1 v' (n + news.length) (xs ++ news) ∧ w.grownBy w' v.ownBlock ∧ (v'.ownBlock = v.ownBlock ∨ v'.ownBlock = some w.heap.size) := by
 obtain ⟨A, c, rfl, hc, hrd⟩ := hr
 rcases A with _ | ad
 · have hn : news = [] := by
     by_cases hne : news = []
     · exact hne
     · obtain ⟨b, o, h0, _⟩ := hrd hne; cases h0
   subst hn
   exact ⟨v, w, run_append_nothing (P := P) w base t ty e i ht hi v n xs hown c, by simpa using hown, World.grownBy.refl w _, .inl rfl⟩
 · obtain ⟨v', w', hrun, r1, r2, _, r4⟩ := run_append_own_at (P := P) w base t ty e i z 1 bytes ht hi hz hsize hby hzs (by omega) v n xs hown ad news.length c news (by simp) (by
     intro j u hu
     have hj : j < news.length := by
       rcases Nat.lt_or_ge j news.length with h | h
       · exact h
       · rw [List.getElem?_eq_none h] at hu; cases hu
     obtain ⟨b', o', h0, _, hcell⟩ := hrd (by intro h0; subst h0; simp at hj)
     injection h0 with h0
     subst h0
     rw [add_zero_off, hcell j hj, List.getD_eq_getElem?_getD, hu]; rfl) h1 h63 hbytes hbase
   exact ⟨v', w', hrun, r1, r2, r4⟩
theorem wpList_append_to {ops : Array Oper} {rest : List Oper} {o : Oper} {a : Act} {Q : Exit → Act → World → Prop} (hgd : o.guard = none) (s x : Operand) (t : TypeId)
   (ho : o.op = .call { callee := .builtin .append, args := #[s, x], argTypes := #[t, t] })
   (base : Nat) (e : TypeId) (i : TypeInfo) (z : Value) (bytes : Nat) (ht : P.underlying t = some (.slice e)) (hi : P.info? e = some i) (hz : i.zero = some z)
   (hsize : i.size = 1) (hby : i.bytes = bytes) (hzs : z.cells.size = 1)
   (v : Value) (n : Nat) (xs : List Value) (hs : a.eval s = v) (hown : w.ownsRow base e 1 v n xs)
   (B : Nat) (src : Value) (news : List Value) (hx : a.eval x = src) (hr : Sl w B src news) (h1 : ∀ u ∈ news, u.oneCell' = true)
   (h63 : n + news.length ≤ maxLen) (hbytes : (n + news.length) * bytes ≤ 140737488355328) (hbase : base ≤ w.heap.size)
   (h : ∀ v' w', w'.ownsRow base e 1 v' (n + news.length) (xs ++ news) → w.grownBy w' v.ownBlock → (v'.ownBlock = v.ownBlock ∨ v'.ownBlock = some w.heap.size) → wpList P ops Q rest (a.put o.dst v') w') : wpList P ops Q (o :: rest) a w := by
 obtain ⟨v', w', hrun, r1, r2, r3⟩ := run_append_sl (P := P) w base t o.type e i z bytes ht hi hz hsize hby hzs v n xs hown B src news hr h1 h63 hbytes hbase
 refine wpList_plain hgd fun K hK => ?_
 unfold Oper.wp execOp
 simp only [ho, resolve, invoke, builtin, Sem.run_bind, Sem.run_pure, Result.andThen_ok, List.map_toArray, List.map_cons, List.map_nil, hs, hx, hrun]
 exact hK _ _ (h v' w' r1 r2 r3)
theorem step_append_to {ops : Array Oper} {o : Oper} {a : Act} {K : Act → World → Prop} {Q : Exit → Act → World → Prop} {E : Prop} (hgd : o.guard = none) (s x : Operand) (t : TypeId)
   (ho : o.op = .call { callee := .builtin .append, args := #[s, x], argTypes := #[t, t] })
   (base : Nat) (e : TypeId) (i : TypeInfo) (z : Value) (bytes : Nat) (ht : P.underlying t = some (.slice e)) (hi : P.info? e = some i) (hz : i.zero = some z)
   (hsize : i.size = 1) (hby : i.bytes = bytes) (hzs : z.cells.size = 1)
   (v : Value) (n : Nat) (xs : List Value) (hs : a.eval s = v) (hown : w.ownsRow base e 1 v n xs)
   (B : Nat) (src : Value) (news : List Value) (hx : a.eval x = src) (hr : Sl w B src news) (h1 : ∀ u ∈ news, u.oneCell' = true)
   (h63 : n + news.length ≤ maxLen) (hbytes : (n + news.length) * bytes ≤ 140737488355328) (hbase : base ≤ w.heap.size)
   (h : ∀ v' w', w'.ownsRow base e 1 v' (n + news.length) (xs ++ news) → w.grownBy w' v.ownBlock → (v'.ownBlock = v.ownBlock ∨ v'.ownBlock = some w.heap.size) → K (a.put o.dst v') w') :
   if Region.wanted o (yielded ops a.tmps) = true then Oper.wp P o a w K Q else E := by
 have hw : Region.wanted o (yielded ops a.tmps) = true := by simp [Region.wanted, hgd]
 rw [if_pos hw]
 obtain ⟨v', w', hrun, r1, r2, r3⟩ := run_append_sl (P := P) w base t o.type e i z bytes ht hi hz hsize hby hzs v n xs hown B src news hr h1 h63 hbytes hbase
 unfold Oper.wp
 simp [execOp, ho, resolve, invoke, builtin, hs, hx, hrun, Result.andThen]
 exact h v' w' r1 r2 r3
end
def Rr (w : World) (lo : Nat) (v : Value) (xs : List Value) : Prop :=
 ∃ a c, v = .slice a xs.length c ∧ xs.length ≤ c ∧ c ≤ maxLen ∧ (xs ≠ [] → ∃ b, a = some ⟨b, 0, none⟩ ∧ lo ≤ b ∧ b < w.heap.size ∧ Rd w b 0 xs)
section
variable {w w' : World} {lo : Nat} {v : Value} {xs : List Value}
theorem Rr.sl (h : Rr w lo v xs) : Sl w w.heap.size v xs := by
 obtain ⟨a, c, hv, hc, _, hr⟩ := h
 refine ⟨a, c, hv, hc, fun hne => ?_⟩
 obtain ⟨b, ha, _, hb, hrd⟩ := hr hne
 exact ⟨b, 0, ha, hb, hrd⟩
theorem Rr.of_own {base e : Nat} (h : w.ownsRow base e 1 v xs.length xs) : Rr w base v xs := by
 have hs := Sl.of_own h
 obtain ⟨a, c, rfl, hc, hr⟩ := hs
 rcases h.2 with ⟨h1, h0⟩ | ⟨g, cap, cur, h1, hb, hh, hn, hcm, hs, ht⟩
 · simp only [Value.slice.injEq] at h1
   obtain ⟨rfl, _, rfl⟩ := h1
   exact ⟨_, 0, rfl, hc, Nat.zero_le _, fun hne => absurd (List.eq_nil_of_length_eq_zero h0) hne⟩
 · simp only [Value.slice.injEq, true_and] at h1
   obtain ⟨rfl, rfl⟩ := h1
   refine ⟨_, c, rfl, hc, hcm, fun hne => ?_⟩
   obtain ⟨b, o, h2, h3, h4⟩ := hr hne
   simp only [Option.some.injEq, Addr.mk.injEq, and_true] at h2
   obtain ⟨rfl, rfl⟩ := h2
   exact ⟨g, rfl, hb, h3, h4⟩
theorem Rr.keep (h : Rr w lo v xs) (hs : w.heap.size ≤ w'.heap.size) (hk : ∀ b, lo ≤ b → b < w.heap.size → w'.heap[b]? = w.heap[b]?) : Rr w' lo v xs := by
 obtain ⟨a, c, hv, hc, hm, hr⟩ := h
 refine ⟨a, c, hv, hc, hm, fun hne => ?_⟩
 obtain ⟨b, ha, hl, hb, hrd⟩ := hr hne
 exact ⟨b, ha, hl, by omega, hrd.keep fun i _ => World.cell?_of_block (a := ⟨b, 0 + i, none⟩) (hk b hl hb)⟩
theorem Rr.below (h : Rr w lo v xs) (hb : Below w.heap.size w w') : Rr w' lo v xs := h.keep hb.size fun b _ hlt => hb.block b hlt
theorem Rr.grown {r : Option Nat} (h : Rr w lo v xs) (hg : w.grownBy w' r) (hr : ∀ k, r = some k → k < lo) : Rr w' lo v xs := h.keep hg.size fun b hl hlt => hg.block b hlt (fun e => by have := hr b e.symm; omega)
theorem Rr.drew (h : Rr w lo v xs) : Rr w.drew lo v xs := h
theorem Rr.len (h : Rr w lo v xs) : ∃ a c, v = .slice a xs.length c ∧ xs.length ≤ c ∧ c ≤ maxLen := by
 obtain ⟨a, c, hv, hc, hm, _⟩ := h
 exact ⟨a, c, hv, hc, hm⟩
end
theorem own_below {w w' : World} {base e n : Nat} {v : Value} {xs : List Value} (h : w.ownsRow base e 1 v n xs) (hb : Below w.heap.size w w') : w'.ownsRow base e 1 v n xs :=
 h.kept (row := none) ⟨hb.os, hb.tape, hb.output, hb.size, fun k hk _ => hb.block k hk⟩ (by cases v.ownBlock <;> simp)
theorem Blk.far_own {w w' : World} {b base e e' n : Nat} {v : Value} {L xs : List Value} (hk : Blk w b e' L) (hown : w.ownsRow base e 1 v n xs) (hne : e' ≠ e) (hg : w.grownBy w' v.ownBlock) : Blk w' b e' L := by
 refine (hg.block b hk.lt ?_).trans hk
 intro he
 rcases hown.2 with ⟨rfl, _⟩ | ⟨g, cap, cur, rfl, _, hh, _⟩
 · simp [Value.ownBlock] at he
 · simp only [Value.ownBlock, Option.some.injEq] at he
   subst he
   unfold Blk at hk
   rw [hh] at hk
   injection hk with hk
   injection hk with _ h2
   exact hne h2.symm
theorem below_grown {w w1 w2 : World} {base e n : Nat} {v : Value} {xs : List Value} (hb : Below base w w1) (hown : w1.ownsRow base e 1 v n xs) (hg : w1.grownBy w2 v.ownBlock) (hB : base ≤ w1.heap.size) : Below base w w2 :=
 hb.trans (Up.below (r := v.ownBlock) hg hB (fun k hk => (hown.lt k hk).1))
theorem Sl.one (w : World) (T : TypeId) (x : Value) {n : Nat} (hn : w.heap.size = n) : Sl (w.alloc (.cells #[x] T)) (n + 1) (.slice (some ⟨n, 0, none⟩) 1 1) [x] := by
 subst hn
 have h := Blk.new w T [x]
 exact Sl.mk (vs := [x]) (h.rd (o := 0) (vs := [x]) (by simp) (fun i hi => by simp)) (by simp) (by simp)
theorem own_cast {w : World} {base e n n' : Nat} {v : Value} {xs ys : List Value} (h : w.ownsRow base e 1 v n xs) (hn : n = n') (hx : xs = ys) : w.ownsRow base e 1 v n' ys := by
 subst hn; subst hx; exact h
set_option maxRecDepth 100000
end Go.Proofs.YtoojgjhfmmohbaaGreat
