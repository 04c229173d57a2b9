/- Two rows of the call's own that grow beside each other in a region that draws its order: what is known of them, whichever came first. No function of the program. -/
import Derived.Test.YtoggalnjjhcmkaaGreatApp
import Derived.Maps.AppendAt
namespace Go.Proofs.YtoggalnjjhcmkaaGreat
open Go.RowKit Dig
set_option linter.unusedVariables false
set_option linter.unusedSimpArgs false

/-- in W, since W0: row 1 and row 2, the blocks that have been laid for what is to be appended, and nothing else has turned -/
structure TwoRows (B : Nat) (e1 s1 e2 s2 : Nat) (W0 : World) (o1 o2 : Option Nat) (pend : List (Nat × Nat × List Value)) (W : World) (v1 : Value) (n1 : Nat) (xs1 : List Value) (v2 : Value) (n2 : Nat) (xs2 : List Value) : Prop where
  r1 : W.ownsRow B e1 s1 v1 n1 xs1
  r2 : W.ownsRow B e2 s2 v2 n2 xs2
  ne : e1 ≠ e2
  hB : B ≤ W0.heap.size
  sz : W0.heap.size ≤ W.heap.size
  os : W.os = W0.os
  tape : W.tape = W0.tape
  output : W.output = W0.output
  same : ∀ k, k < W0.heap.size → some k ≠ o1 → some k ≠ o2 → W.heap[k]? = W0.heap[k]?
  q1 : ∀ k, o1 = some k → B ≤ k
  q2 : ∀ k, o2 = some k → B ≤ k
  b1 : v1.ownBlock = o1 ∨ ∀ k, v1.ownBlock = some k → W0.heap.size ≤ k
  b2 : v2.ownBlock = o2 ∨ ∀ k, v2.ownBlock = some k → W0.heap.size ≤ k
  pd : ∀ p ∈ pend, W0.heap.size ≤ p.1 ∧ Blk W p.1 p.2.1 p.2.2 ∧ v1.ownBlock ≠ some p.1 ∧ v2.ownBlock ≠ some p.1

section
variable {B e1 s1 e2 s2 : Nat} {W0 W W' : World} {o1 o2 : Option Nat} {pend : List (Nat × Nat × List Value)} {v1 v2 : Value} {n1 n2 : Nat} {xs1 xs2 : List Value}
theorem TwoRows.start (h1 : W0.ownsRow B e1 s1 v1 n1 xs1) (h2 : W0.ownsRow B e2 s2 v2 n2 xs2) (ne : e1 ≠ e2) (hB : B ≤ W0.heap.size) : TwoRows B e1 s1 e2 s2 W0 v1.ownBlock v2.ownBlock [] W0 v1 n1 xs1 v2 n2 xs2 :=
  ⟨h1, h2, ne, hB, Nat.le_refl _, rfl, rfl, rfl, fun _ _ _ _ => rfl, fun k hk => (h1.lt k hk).1, fun k hk => (h2.lt k hk).1, .inl rfl, .inl rfl, fun p hp => by cases hp⟩
theorem TwoRows.swap (h : TwoRows B e1 s1 e2 s2 W0 o1 o2 pend W v1 n1 xs1 v2 n2 xs2) : TwoRows B e2 s2 e1 s1 W0 o2 o1 pend W v2 n2 xs2 v1 n1 xs1 :=
  ⟨h.r2, h.r1, h.ne.symm, h.hB, h.sz, h.os, h.tape, h.output, fun k hk h1 h2 => h.same k hk h2 h1, h.q2, h.q1, h.b2, h.b1, fun p hp => ⟨(h.pd p hp).1, (h.pd p hp).2.1, (h.pd p hp).2.2.2, (h.pd p hp).2.2.1⟩⟩
theorem TwoRows.drew (h : TwoRows B e1 s1 e2 s2 W0 o1 o2 pend W v1 n1 xs1 v2 n2 xs2) : TwoRows B e1 s1 e2 s2 W0 o1 o2 pend W.drew v1 n1 xs1 v2 n2 xs2 :=
  ⟨h.r1, h.r2, h.ne, h.hB, h.sz, h.os, h.tape, h.output, h.same, h.q1, h.q2, h.b1, h.b2, h.pd⟩
theorem TwoRows.call (h : TwoRows B e1 s1 e2 s2 W0 o1 o2 pend W v1 n1 xs1 v2 n2 xs2) (hb : Below W.heap.size W W') : TwoRows B e1 s1 e2 s2 W0 o1 o2 pend W' v1 n1 xs1 v2 n2 xs2 := by
  have hg : W.grownBy W' none := ⟨hb.os, hb.tape, hb.output, hb.size, fun k hk _ => hb.block k hk⟩
  refine ⟨h.r1.kept hg ?_, h.r2.kept hg ?_, h.ne, h.hB, Nat.le_trans h.sz hb.size, hb.os.trans h.os, hb.tape.trans h.tape, hb.output.trans h.output, fun k hk h1 h2 => (hb.block k (Nat.lt_of_lt_of_le hk h.sz)).trans (h.same k hk h1 h2), h.q1, h.q2, h.b1, h.b2, fun p hp => ?_⟩
  · cases v1.ownBlock <;> simp
  · cases v2.ownBlock <;> simp
  · obtain ⟨g1, g2, g3, g4⟩ := h.pd p hp
    exact ⟨g1, g2.below hb g2.lt, g3, g4⟩
theorem TwoRows.alloc (h : TwoRows B e1 s1 e2 s2 W0 o1 o2 pend W v1 n1 xs1 v2 n2 xs2) (t : Nat) (cs : List Value) : TwoRows B e1 s1 e2 s2 W0 o1 o2 ((W.heap.size, t, cs) :: pend) (W.alloc (.cells cs.toArray t)) v1 n1 xs1 v2 n2 xs2 := by
  have hb : Below W.heap.size W (W.alloc (.cells cs.toArray t)) := (Below.refl _ _).alloc (Nat.le_refl _) _
  have h' := h.call hb
  refine { h' with pd := fun p hp => ?_ }
  rcases List.mem_cons.1 hp with rfl | hp
  · refine ⟨h.sz, Blk.new W t cs, fun e => ?_, fun e => ?_⟩
    · have := (h.r1.lt _ e).2; omega
    · have := (h.r2.lt _ e).2; omega
  · exact h'.pd p hp
theorem TwoRows.below (h : TwoRows B e1 s1 e2 s2 W0 o1 o2 pend W v1 n1 xs1 v2 n2 xs2) : Below B W0 W :=
  ⟨h.os, h.tape, h.output, h.sz, fun k hk => h.same k (Nat.lt_of_lt_of_le hk h.hB) (fun e => by have := h.q1 k e.symm; omega) (fun e => by have := h.q2 k e.symm; omega)⟩
theorem TwoRows.apart (h : TwoRows B e1 s1 e2 s2 W0 o1 o2 pend W v1 n1 xs1 v2 n2 xs2) : v2.ownBlock = none ∨ v2.ownBlock ≠ v1.ownBlock := by
  rcases h.r1.2 with ⟨rfl, _⟩ | ⟨g, cap, cur, rfl, _, hg, _⟩
  · cases hv : v2.ownBlock with
    | none => exact .inl rfl
    | some k => right; simp [Value.ownBlock]
  · rcases h.r2.2 with ⟨rfl, _⟩ | ⟨g', cap', cur', rfl, _, hg', _⟩
    · exact .inl rfl
    · right
      intro e
      simp [Value.ownBlock] at e
      subst e
      rw [hg] at hg'
      simp only [Option.some.injEq, Obj.cells.injEq] at hg'
      exact h.ne hg'.2.1
/-- row 1 has grown -/
theorem TwoRows.grown (h : TwoRows B e1 s1 e2 s2 W0 o1 o2 pend W v1 n1 xs1 v2 n2 xs2) {v' : Value} {n' : Nat} {xs' : List Value} (hr : W'.ownsRow B e1 s1 v' n' xs') (hg : W.grownBy W' v1.ownBlock) (ho : v'.ownBlock = v1.ownBlock ∨ v'.ownBlock = some W.heap.size) :
    TwoRows B e1 s1 e2 s2 W0 o1 o2 pend W' v' n' xs' v2 n2 xs2 := by
  refine ⟨hr, h.r2.kept hg h.apart, h.ne, h.hB, Nat.le_trans h.sz hg.size, hg.os.trans h.os, hg.tape.trans h.tape, hg.output.trans h.output, fun k hk h1 h2 => (hg.block k (Nat.lt_of_lt_of_le hk h.sz) (fun e => ?_)).trans (h.same k hk h1 h2), h.q1, h.q2, ?_, h.b2, fun p hp => ?_⟩
  · rcases h.b1 with hb | hb
    · exact h1 (e.trans hb)
    · have := hb k e.symm; omega
  · rcases ho with ho | ho
    · rw [ho]; exact h.b1
    · right; intro k hk; rw [ho] at hk; injection hk with hk; have := h.sz; omega
  · obtain ⟨g1, g2, g3, g4⟩ := h.pd p hp
    refine ⟨g1, g2.up hg (Ne.symm g3), ?_, g4⟩
    rcases ho with ho | ho
    · rw [ho]; exact g3
    · rw [ho]; intro e; injection e with e; have := g2.lt; omega
end

section
variable {P : Program} {B e1 s1 e2 s2 : Nat} {W0 W : World} {o1 o2 : Option Nat} {pend : List (Nat × Nat × List Value)} {v1 v2 : Value} {n1 n2 : Nat} {xs1 xs2 : List Value}
theorem TwoRows.run (h : TwoRows B e1 s1 e2 s2 W0 o1 o2 pend W v1 n1 xs1 v2 n2 xs2) (t ty : TypeId) (i : TypeInfo) (z : Value) (bytes : Nat) (ht : P.underlying t = some (.slice e1)) (hi : P.info? e1 = some i) (hz : i.zero = some z)
    (hsize : i.size = s1) (hby : i.bytes = bytes) (hzs : z.cells.size = s1) (hsz : 0 < s1) (b : Nat) (te : Nat) (cs : List Value) (hp : (b, te, cs) ∈ pend) (hl : cs.length = s1) (h1c : ∀ u ∈ cs, u.oneCell' = true) (hlen : n1 + 1 ≤ 1048576) (hbytes : bytes ≤ 1024) :
    ∃ v' w', (Builtin.append_ #[t, t] ty #[v1, .slice (some ⟨b, 0, none⟩) 1 1]).run P W = .ok v' w' ∧ TwoRows B e1 s1 e2 s2 W0 o1 o2 pend w' v' (n1 + 1) (xs1 ++ cs) v2 n2 xs2 := by
  obtain ⟨g1, g2, g3, g4⟩ := h.pd _ hp
  have hbb : (n1 + 1) * bytes ≤ 140737488355328 := by
    have := Nat.mul_le_mul hlen hbytes; omega
  obtain ⟨v', w', hrun, hr, hg, _, ho⟩ := run_append_own_at (P := P) (w := W) B t ty e1 i z s1 bytes ht hi hz hsize hby hzs hsz v1 n1 xs1 h.r1 ⟨b, 0, none⟩ 1 1 cs (by simpa using hl) (by
    intro j u hj
    obtain ⟨hjl, rfl⟩ := List.getElem?_eq_some_iff.1 hj
    rw [add_zero_off, Nat.zero_add, g2.cell j hjl, List.getD_eq_getElem?_getD, List.getElem?_eq_getElem hjl]; rfl) h1c (by unfold maxLen; omega) hbb (Nat.le_trans h.hB h.sz)
  exact ⟨v', w', hrun, h.grown hr hg ho⟩
theorem step_append_row1 {ops : Array Oper} {o : Oper} {a : Act} {K : Act → World → Prop} {Q : Exit → Act → World → Prop} {E : Prop} (hgd : o.guard = none) (s x : Operand) (t : TypeId)
    (ho : o.op = .call { callee := .builtin .append, args := #[s, x], argTypes := #[t, t] })
    (i : TypeInfo) (z : Value) (bytes : Nat) (ht : P.underlying t = some (.slice e1)) (hi : P.info? e1 = some i) (hz : i.zero = some z) (hsize : i.size = s1) (hby : i.bytes = bytes) (hzs : z.cells.size = s1) (hsz : 0 < s1)
    (b : Nat) (te : Nat) (cs : List Value) (hs : a.eval s = v1) (hx : a.eval x = .slice (some ⟨b, 0, none⟩) 1 1) (h : TwoRows B e1 s1 e2 s2 W0 o1 o2 pend W v1 n1 xs1 v2 n2 xs2) (hp : (b, te, cs) ∈ pend) (hl : cs.length = s1) (h1c : ∀ u ∈ cs, u.oneCell' = true) (hlen : n1 + 1 ≤ 1048576) (hbytes : bytes ≤ 1024)
    (hK : ∀ v' w', TwoRows B e1 s1 e2 s2 W0 o1 o2 pend w' v' (n1 + 1) (xs1 ++ cs) v2 n2 xs2 → K (a.put o.dst v') w') :
    if Region.wanted o (yielded ops a.tmps) = true then Oper.wp P o a W K Q else E := by
  have hw : Region.wanted o (yielded ops a.tmps) = true := by simp [Region.wanted, hgd]
  rw [if_pos hw]
  obtain ⟨v', w', hrun, h'⟩ := h.run t o.type i z bytes ht hi hz hsize hby hzs hsz b te cs hp hl h1c hlen hbytes
  unfold Oper.wp
  simp [execOp, ho, resolve, invoke, builtin, hs, hx, hrun, Result.andThen]
  exact hK v' w' h'
theorem step_append_row2 {ops : Array Oper} {o : Oper} {a : Act} {K : Act → World → Prop} {Q : Exit → Act → World → Prop} {E : Prop} (hgd : o.guard = none) (s x : Operand) (t : TypeId)
    (ho : o.op = .call { callee := .builtin .append, args := #[s, x], argTypes := #[t, t] })
    (i : TypeInfo) (z : Value) (bytes : Nat) (ht : P.underlying t = some (.slice e2)) (hi : P.info? e2 = some i) (hz : i.zero = some z) (hsize : i.size = s2) (hby : i.bytes = bytes) (hzs : z.cells.size = s2) (hsz : 0 < s2)
    (b : Nat) (te : Nat) (cs : List Value) (hs : a.eval s = v2) (hx : a.eval x = .slice (some ⟨b, 0, none⟩) 1 1) (h : TwoRows B e1 s1 e2 s2 W0 o1 o2 pend W v1 n1 xs1 v2 n2 xs2) (hp : (b, te, cs) ∈ pend) (hl : cs.length = s2) (h1c : ∀ u ∈ cs, u.oneCell' = true) (hlen : n2 + 1 ≤ 1048576) (hbytes : bytes ≤ 1024)
    (hK : ∀ v' w', TwoRows B e1 s1 e2 s2 W0 o1 o2 pend w' v1 n1 xs1 v' (n2 + 1) (xs2 ++ cs) → K (a.put o.dst v') w') :
    if Region.wanted o (yielded ops a.tmps) = true then Oper.wp P o a W K Q else E :=
  step_append_row1 hgd s x t ho i z bytes ht hi hz hsize hby hzs hsz b te cs hs hx h.swap hp hl h1c hlen hbytes (fun v' w' h' => hK v' w' h'.swap)
end
end Go.Proofs.YtoggalnjjhcmkaaGreat
