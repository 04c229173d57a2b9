/- An append onto a new row, and where what comes of it lies; spec.IntVal with that. -/
import Derived.Test.YtggpaejlmfppoaaGreatIntVal
namespace Go.Proofs.YtggpaejlmfppoaaGreat
open Go.RowKit Dig
set_option linter.unusedVariables false
set_option linter.unusedSimpArgs false
set_option maxRecDepth 100000

section
variable {P : Program} (w : World)
/-- 'append([]T{}, src...)' as a step of a region that draws its order -/
theorem step_append_newF {ops : Array Oper} {o : Oper} {a : Act} {K : Act → World → Prop} {Q : Exit → Act → World → Prop} {E : Prop} (hgd : o.guard = none) (s x : Operand) (t : TypeId)
    (ho : o.op = .call { callee := .builtin .append, args := #[s, x], argTypes := #[t, t] })
    (e : TypeId) (i : TypeInfo) (z : Value) (bytes : Nat) (ht : P.underlying t = some (.slice e)) (hi : P.info? e = some i) (hz : i.zero = some z)
    (hsize : i.size = 1) (hby : i.bytes = bytes) (hzs : z.cells.size = 1)
    (b : Nat) (hs : a.eval s = .slice (some ⟨b, 0, none⟩) 0 0) (hb : Blk w b e [])
    (B : Nat) (src : Value) (news : List Value) (hx : a.eval x = src) (hr : Sl w B src news) (h1 : ∀ u ∈ news, u.oneCell' = true)
    (h63 : news.length ≤ maxLen) (hbytes : news.length * bytes ≤ 140737488355328)
    (h : ∀ a' c' w', Sl w' w'.heap.size (.slice a' news.length c') news → Up (some b) w w' → (∀ x, a' = some x → b ≤ x.block) → K (a.put o.dst (.slice a' news.length c')) w') :
    if Region.wanted o (yielded ops a.tmps) = true then Oper.wp P o a w K Q else E := by
  have hw : Region.wanted o (yielded ops a.tmps) = true := by simp [Region.wanted, hgd]
  rw [if_pos hw]
  have hown : w.ownsRow b e 1 (.slice (some ⟨b, 0, none⟩) 0 0) 0 [] := by
    refine ⟨rfl, .inr ⟨b, 0, #[], rfl, Nat.le_refl _, hb, Nat.le_refl _, ?_, rfl, rfl⟩⟩
    simp [maxLen]
  obtain ⟨A, c, rfl, hc, hrd⟩ := hr
  rcases A with _ | ad
  · have hn : news = [] := by
      by_cases hne : news = []
      · exact hne
      · obtain ⟨b', o', h0, _⟩ := hrd hne; cases h0
    subst hn
    have hrun := run_append_nothing (P := P) w b t o.type e i ht hi _ 0 [] hown c
    unfold Oper.wp
    simp only [List.length_nil] at hx
    simp [execOp, ho, resolve, invoke, builtin, hs, hx, hrun, Result.andThen]
    exact h _ _ _ (Sl.empty _ _ _ _) (Up.refl _ _) (fun x hx => by injection hx with hx; subst hx; exact Nat.le_refl _)
  · obtain ⟨v', w', hrun, r1, r2, _⟩ := run_append_own (P := P) w b t o.type e i z 1 bytes ht hi hz hsize hby hzs (by omega) (.slice (some ⟨b, 0, none⟩) 0 0) 0 [] hown ad news.length c news (by simp) (by
      intro j u hu
      have hj : j < news.length := by
        rcases Nat.lt_or_ge j news.length with h | h
        · exact h
        · rw [List.getElem?_eq_none h] at hu; cases hu
      obtain ⟨b', o', h0, _, hcell⟩ := hrd (by intro h0; subst h0; simp at hj)
      injection h0 with h0
      subst h0
      rw [add_zero_off, hcell j hj, List.getD_eq_getElem?_getD, hu]; rfl) h1 (by simpa using h63) (by simpa using hbytes) (Nat.le_of_lt hb.lt)
    unfold Oper.wp
    simp [execOp, ho, resolve, invoke, builtin, hs, hx, hrun, Result.andThen]
    have r1' : w'.ownsRow b e 1 v' news.length news := by simpa using r1
    have hsl := Sl.of_own r1'
    obtain ⟨a', c', rfl, _⟩ := id hsl
    refine h a' c' w' hsl r2 (fun x hx => ?_)
    subst hx
    exact (r1'.lt x.block rfl).1
end
/-- an integer's value, its magnitude in new memory -/
def VaFPost (i : Int) (w : World) (e : Ending) (w' : World) : Prop :=
  ∃ n a l c, e = .returned (.agg #[.int .i64 2, .bool n, .slice a l c, .int .u64 0, .string ByteArray.empty, .slice none 0 0]) ∧ Va w' w'.heap.size (.agg #[.int .i64 2, .bool n, .slice a l c, .int .u64 0, .string ByteArray.empty, .slice none 0 0]) i ∧ Below w.heap.size w w' ∧ ∀ x, a = some x → w.heap.size ≤ x.block
set_option maxHeartbeats 1600000 in
theorem intValF_any (v : Value) (i : Int) (w : World) (hv : Sp w w.heap.size v i) (hl : i.natAbs < lim) : Calls Tryz.prog 25 #[v] w (VaFPost i w) := by
  obtain ⟨mag, rfl, ms, hm, hs⟩ := hv
  obtain ⟨i0, hi0, hz0, hz1, hz2⟩ := info_parts info8
  have hlen : ms.length ≤ 4096 := hm.length_le hl
  obtain ⟨neg, hneg⟩ : ∃ neg, neg = decide (i < 0) := ⟨_, rfl⟩
  rw [← hneg]
  have ROW : Hid (Blk (toldW w neg mag).drew (w.heap.size + 1 + 1) 5 []) := toldW_row w neg mag
  have SRC : Hid (Sl (toldW w neg mag).drew w.heap.size mag (ms.map bv)) := (hs.below (toldW_below w neg mag)).drewN 1
  have after : Hid (∀ a' c' w', Sl w' w'.heap.size (.slice a' (ms.map bv).length c') (ms.map bv) → Up (some (w.heap.size + 1 + 1)) (toldW w neg mag).drew w' →
      Blk w' (w.heap.size + 1) 27 zeroVal ∧ Blk w' w.heap.size 64 [.bool neg, mag] ∧
      VaPost i w (.returned (.agg #[.int .i64 2, .bool neg, .slice a' (ms.map bv).length c', .int .u64 0, .string ByteArray.empty, .slice none 0 0]))
      ((((((w'.setCell ⟨w.heap.size + 1, 0, none⟩ (.int .i64 2)).setCell ⟨w.heap.size + 1, 1, none⟩ (.bool neg)).setCell ⟨w.heap.size + 1, 2, none⟩ (.slice a' (ms.map bv).length c')).setCell ⟨w.heap.size + 1, 3, none⟩ (.int .u64 0)).setCell ⟨w.heap.size + 1, 4, none⟩ (.string ByteArray.empty)).setCell ⟨w.heap.size + 1, 5, none⟩ (.slice none 0 0))) := Lib.hid (fun a' c' w' hsl hu' => by
    have hu : Up (some (w.heap.size + 1 + 1)) (toldW w neg mag) w' := ((Up.refl _ _).drewN 1).trans hu'
    have k1 := (toldW_val w neg mag).up hu (by simp)
    have k0 := (toldW_int w neg mag).up hu (by simp; omega)
    have hb : Below w.heap.size w w' := (toldW_below w neg mag).trans (hu.below (toldW_below w neg mag).size (fun k hk => by injection hk with hk; omega))
    exact ⟨k1, k0, Va.store ⟨ms, hm, hsl⟩ hneg k1 hb (by omega)⟩)
  have H1 := Lib.hid (show (ms.map bv).length ≤ maxLen by simp [maxLen]; omega)
  have H2 := Lib.hid (show (ms.map bv).length * 1 ≤ 140737488355328 by simp; omega)
  obtain ⟨a, c, rfl, _⟩ := id hs
  clear hs hm hneg hlen hl
  unfold toldW zeroVal at ROW SRC after
  simp only [List.length_map] at ROW SRC after
  go_enter Tryz.func25, Tryz.ntmps25
  go_wp2_with fail
  go_region_law (refine step_append_newF _ rfl (.tmp 5) (.tmp 7) 24 rfl 5 i0 _ 1 Tryz.underlying24 hi0 hz0 hz1 hz2 rfl (w.heap.size + 1 + 1) (by simp [Act.eval, Act.put]) ROW.out w.heap.size _ (ms.map bv) (by simp [Act.eval, Act.put]) SRC.out (oneCell_bv _) H1.out H2.out ?_; intro a' c' w' h1 h2 hfr; have FR := Lib.hid hfr; clear hfr; simp only [List.length_map] at h1; obtain ⟨k1, k0, hfin⟩ := after.out a' c' w' h1 h2; have hlt := k1.lt; have hlt0 := k0.lt; have q0 := k0.cell 0 (by simp); have q1 := k0.cell 1 (by simp); simp only [List.getD_cons_zero, List.getD_cons_succ] at q0 q1; have c0 : w'.cell? ⟨w.heap.size + 1, 0, none⟩ = some (.int .i64 0) := k1.cell 0 (by simp); have c1 : w'.cell? ⟨w.heap.size + 1, 1, none⟩ = some (.bool false) := k1.cell 1 (by simp); have c2 : w'.cell? ⟨w.heap.size + 1, 2, none⟩ = some (.slice none 0 0) := k1.cell 2 (by simp); have c3 : w'.cell? ⟨w.heap.size + 1, 3, none⟩ = some (.int .u64 0) := k1.cell 3 (by simp); have c4 : w'.cell? ⟨w.heap.size + 1, 4, none⟩ = some (.string ByteArray.empty) := k1.cell 4 (by simp); have c5 : w'.cell? ⟨w.heap.size + 1, 5, none⟩ = some (.slice none 0 0) := k1.cell 5 (by simp); have f0 := k1.free 0; have f1 := k1.free 1; have f2 := k1.free 2; have f3 := k1.free 3; have f4 := k1.free 4; have f5 := k1.free 5; have F := Lib.hid hfin; clear k1 k0 hfin h1 h2)
  all_goals
    go_wp2_with fail
    refine bodyPost_ret (v := .agg #[.int .i64 2, .bool neg, .slice a' ms.length c', .int .u64 0, .string ByteArray.empty, .slice none 0 0]) (by simp [results, Tryz.results25, go_sem, c0, c1, c2, c3, c4, c5]; rfl) rfl ?_
    obtain ⟨v, e1, h1, h2⟩ := F.out
    exact ⟨neg, a', _, c', rfl, by injection e1 with e1; rw [e1]; exact h1, h2, fun x hx => by have := FR.out x hx; omega⟩
end Go.Proofs.YtggpaejlmfppoaaGreat
