/- An append onto a row of the call's own, of a source that may be nil or empty; cuts of slices. No function of the program. -/
import Derived.Test.YtoggalnjjhcmkaaGreatRep
import Derived.OwnWalk
import Derived.Laws.AppendOwnNone
import Derived.Laws.OwnMore
import Derived.Laws.CopyOwn
namespace Go.Proofs.YtoggalnjjhcmkaaGreat
open Go.RowKit Dig
set_option linter.unusedVariables false
set_option linter.unusedSimpArgs false

theorem add_zero_off (b o i : Nat) : (⟨b, o, none⟩ : Addr).add i = ⟨b, o + i, none⟩ := by
  unfold Addr.add
  by_cases h : i = 0
  · subst h; simp
  · simp [h]

/-- what is owned reads as a list -/
theorem Sl.of_own {w : World} {base e : Nat} {v : Value} {xs : List Value} (h : w.ownsRow base e 1 v xs.length xs) : Sl w w.heap.size v xs := by
  rcases h.2 with ⟨rfl, h0⟩ | ⟨g, cap, cur, rfl, hb, hh, hn, hc, hs, ht⟩
  · have : xs = [] := List.eq_nil_of_length_eq_zero h0
    subst this; exact Sl.nil _ _
  · refine ⟨_, cap, rfl, hn, fun hne => ⟨g, 0, rfl, ?_, fun i hi => ?_⟩⟩
    · have hB : Blk w g e cur.toList := by unfold Blk; rw [hh]
      exact hB.lt
    · have hB : Blk w g e cur.toList := by unfold Blk; rw [hh]
      have hlen : i < cur.toList.length := by rw [Array.length_toList, hs]; omega
      rw [Nat.zero_add, hB.cell i hlen]
      rw [Nat.mul_one] at ht
      have e1 : xs.getD i undef = (List.take xs.length cur.toList).getD i undef := by rw [ht]
      rw [e1, List.getD_eq_getElem?_getD, List.getD_eq_getElem?_getD, List.getElem?_take, if_pos hi]

theorem oneCell_bv (ms : List Nat) : ∀ u ∈ ms.map bv, u.oneCell' = true := by
  intro u hu
  obtain ⟨x, _, rfl⟩ := List.mem_map.1 hu
  rfl
theorem oneCell_wv (ms : List Nat) : ∀ u ∈ ms.map wv, u.oneCell' = true := by
  intro u hu
  obtain ⟨x, _, rfl⟩ := List.mem_map.1 hu
  rfl

section
variable {P : Program} (w : World)
theorem run_append_nothing (base : Nat) (t ty e : TypeId) (i : TypeInfo) (ht : P.underlying t = some (.slice e)) (hi : P.info? e = some i)
    (v : Value) (n : Nat) (xs : List Value) (hown : w.ownsRow base e 1 v n xs) (c : Nat) : (Builtin.append_ #[t, t] ty #[v, .slice none 0 c]).run P w = .ok v w := by
  rcases hown.2 with ⟨rfl, rfl⟩ | ⟨g, cap, cur, rfl, _, _, hnc, _⟩
  · simp [Builtin.append_, run_underlying ht, sizeOf, typeInfo, hi, Builtin.lenOf, Builtin.firstCells]
  · simp [Builtin.append_, run_underlying ht, sizeOf, typeInfo, hi, Builtin.lenOf, Builtin.firstCells, hnc, storeCells]

/-- 'append(out, src...)', out a row of the call's own, src any slice of one-cell elements -/
theorem wpList_append_sl {ops : Array Oper} {rest : List Oper} {o : Oper} {a : Act} {Q : Exit → Act → World → Prop} (hgd : o.guard = none) (s x : Operand) (t : TypeId)
    (ho : o.op = .call { callee := .builtin .append, args := #[s, x], argTypes := #[t, t] })
    (base : Nat) (e : TypeId) (i : TypeInfo) (z : Value) (bytes : Nat) (ht : P.underlying t = some (.slice e)) (hi : P.info? e = some i) (hz : i.zero = some z)
    (hsize : i.size = 1) (hby : i.bytes = bytes) (hzs : z.cells.size = 1)
    (v : Value) (n : Nat) (xs : List Value) (hs : a.eval s = v) (hown : w.ownsRow base e 1 v n xs)
    (B : Nat) (src : Value) (news : List Value) (hx : a.eval x = src) (hr : Sl w B src news) (h1 : ∀ u ∈ news, u.oneCell' = true)
    (h63 : n + news.length ≤ maxLen) (hbytes : (n + news.length) * bytes ≤ 140737488355328) (hbase : base ≤ w.heap.size)
    (h : ∀ v' w', w'.ownsRow base e 1 v' (n + news.length) (xs ++ news) → w.grownBy w' v.ownBlock → wpList P ops Q rest (a.put o.dst v') w') : wpList P ops Q (o :: rest) a w := by
  obtain ⟨A, c, rfl, hc, hrd⟩ := hr
  rcases A with _ | ad
  · have hn : news = [] := by
      by_cases hne : news = []
      · exact hne
      · obtain ⟨b, o, h0, _⟩ := hrd hne; cases h0
    subst hn
    refine wpList_plain hgd fun K hK => ?_
    have hrun := run_append_nothing (P := P) w base t o.type e i ht hi v n xs hown c
    unfold Oper.wp execOp
    simp only [ho, resolve, invoke, builtin, Sem.run_bind, Sem.run_pure, Result.andThen_ok, List.map_toArray, List.map_cons, List.map_nil, hs, hx, List.length_nil, hrun]
    exact hK _ _ (h v w (by simpa using hown) (World.grownBy.refl w _))
  · refine wpList_append_own w hgd s x t ho base e i z 1 bytes ht hi hz hsize hby hzs (by omega) v n xs hs hown ad news.length c news hx (by simp) ?_ h1 h63 hbytes hbase (fun v' w' h2 h3 _ => h v' w' h2 h3)
    intro j u hu
    have hj : j < news.length := by
      rcases Nat.lt_or_ge j news.length with h | h
      · exact h
      · rw [List.getElem?_eq_none h] at hu; cases hu
    obtain ⟨b, o, h0, _, hcell⟩ := hrd (by intro h0; subst h0; simp at hj)
    injection h0 with h0
    subst h0
    rw [add_zero_off, hcell j hj, List.getD_eq_getElem?_getD, hu]; rfl
/-- 'append([]T{}, src...)' as a step of a region that draws its order -/
theorem step_append_new {ops : Array Oper} {o : Oper} {a : Act} {K : Act → World → Prop} {Q : Exit → Act → World → Prop} {E : Prop} (hgd : o.guard = none) (s x : Operand) (t : TypeId)
    (ho : o.op = .call { callee := .builtin .append, args := #[s, x], argTypes := #[t, t] })
    (e : TypeId) (i : TypeInfo) (z : Value) (bytes : Nat) (ht : P.underlying t = some (.slice e)) (hi : P.info? e = some i) (hz : i.zero = some z)
    (hsize : i.size = 1) (hby : i.bytes = bytes) (hzs : z.cells.size = 1)
    (b : Nat) (hs : a.eval s = .slice (some ⟨b, 0, none⟩) 0 0) (hb : Blk w b e [])
    (B : Nat) (src : Value) (news : List Value) (hx : a.eval x = src) (hr : Sl w B src news) (h1 : ∀ u ∈ news, u.oneCell' = true)
    (h63 : news.length ≤ maxLen) (hbytes : news.length * bytes ≤ 140737488355328)
    (h : ∀ a' c' w', Sl w' w'.heap.size (.slice a' news.length c') news → Up (some b) w w' → K (a.put o.dst (.slice a' news.length c')) w') :
    if Region.wanted o (yielded ops a.tmps) = true then Oper.wp P o a w K Q else E := by
  have hw : Region.wanted o (yielded ops a.tmps) = true := by simp [Region.wanted, hgd]
  rw [if_pos hw]
  have hown : w.ownsRow b e 1 (.slice (some ⟨b, 0, none⟩) 0 0) 0 [] := by
    refine ⟨rfl, .inr ⟨b, 0, #[], rfl, Nat.le_refl _, hb, Nat.le_refl _, ?_, rfl, rfl⟩⟩
    simp [maxLen]
  obtain ⟨A, c, rfl, hc, hrd⟩ := hr
  rcases A with _ | ad
  · have hn : news = [] := by
      by_cases hne : news = []
      · exact hne
      · obtain ⟨b', o', h0, _⟩ := hrd hne; cases h0
    subst hn
    have hrun := run_append_nothing (P := P) w b t o.type e i ht hi _ 0 [] hown c
    unfold Oper.wp
    simp only [List.length_nil] at hx
    simp [execOp, ho, resolve, invoke, builtin, hs, hx, hrun, Result.andThen]
    exact h _ _ _ (Sl.empty _ _ _ _) (Up.refl _ _)
  · obtain ⟨v', w', hrun, r1, r2, _⟩ := run_append_own (P := P) w b t o.type e i z 1 bytes ht hi hz hsize hby hzs (by omega) (.slice (some ⟨b, 0, none⟩) 0 0) 0 [] hown ad news.length c news (by simp) (by
      intro j u hu
      have hj : j < news.length := by
        rcases Nat.lt_or_ge j news.length with h | h
        · exact h
        · rw [List.getElem?_eq_none h] at hu; cases hu
      obtain ⟨b', o', h0, _, hcell⟩ := hrd (by intro h0; subst h0; simp at hj)
      injection h0 with h0
      subst h0
      rw [add_zero_off, hcell j hj, List.getD_eq_getElem?_getD, hu]; rfl) h1 (by simpa using h63) (by simpa using hbytes) (Nat.le_of_lt hb.lt)
    unfold Oper.wp
    simp [execOp, ho, resolve, invoke, builtin, hs, hx, hrun, Result.andThen]
    have r1' : w'.ownsRow b e 1 v' news.length news := by simpa using r1
    have hsl := Sl.of_own r1'
    obtain ⟨a', c', rfl, _⟩ := id hsl
    exact h a' c' w' hsl r2
end

/-- a cut 's[k:]', as the walk writes it -/
theorem Sl.cut {w : World} {B : Nat} {vs : List Value} {a : Option Addr} {n c : Nat} (h : Sl w B (.slice a n c) vs) (k : Nat) (hk : k ≤ vs.length) :
    Sl w B (.slice (if c = k then a else a.map (·.add k)) (n - k) (c - k)) (vs.drop k) := by
  obtain ⟨a', c', hv, hc, hr⟩ := h
  simp only [Value.slice.injEq] at hv
  obtain ⟨rfl, rfl, rfl⟩ := hv
  refine ⟨_, c - k, by rw [List.length_drop], by rw [List.length_drop]; omega, fun hne => ?_⟩
  have hlt : k < vs.length := by
    rcases Nat.lt_or_ge k vs.length with h | h
    · exact h
    · exact absurd (List.drop_eq_nil_of_le h) hne
  obtain ⟨b, o, rfl, hb, hrd⟩ := hr (by intro h0; subst h0; simp at hlt)
  rw [if_neg (by omega)]
  exact ⟨b, o + k, by simp [add_zero_off], hb, hrd.drop k⟩
end Go.Proofs.YtoggalnjjhcmkaaGreat
