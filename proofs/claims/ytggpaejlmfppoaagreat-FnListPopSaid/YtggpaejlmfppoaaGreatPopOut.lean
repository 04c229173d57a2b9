/- spec.without: a row of values without one of them. -/
import Derived.Test.YtggpaejlmfppoaaGreatPopSpec
namespace Go.Proofs.YtggpaejlmfppoaaGreat
open Go.RowKit Dig
set_option linter.unusedVariables false
set_option linter.unusedSimpArgs false
set_option maxRecDepth 1000000

theorem LOc.erase {W : World} {o1 o2 : Option Nat} {xs : List Cel} {ls : List Value} (h : LOc W o1 o2 xs ls) (k : Nat) (hk : k < xs.length) : LOc W o1 o2 (xs.eraseIdx k) (ls.take (k * 6) ++ ls.drop ((k + 1) * 6)) := by
  have hl := h.1
  have hA : (ls.take (k * 6)).length = k * 6 := by rw [List.length_take, hl]; omega
  refine ⟨by rw [List.length_append, hA, List.length_drop, hl, List.length_eraseIdx_of_lt hk]; omega, fun j x hj => ?_⟩
  rw [List.getElem?_eraseIdx] at hj
  split at hj
  · rename_i hlt
    obtain ⟨n, a, l, c, s, g1, g2⟩ := h.2 j x hj
    refine ⟨n, a, l, c, s, fun i hi => ?_, g2⟩
    rw [← g1 i hi, List.getD_eq_getElem?_getD, List.getD_eq_getElem?_getD, List.getElem?_append_left (by rw [hA]; omega), List.getElem?_take, if_pos (by omega)]
  · rename_i hlt
    obtain ⟨n, a, l, c, s, g1, g2⟩ := h.2 (j + 1) x hj
    refine ⟨n, a, l, c, s, fun i hi => ?_, g2⟩
    rw [← g1 i hi, List.getD_eq_getElem?_getD, List.getD_eq_getElem?_getD, List.getElem?_append_right (by rw [hA]; omega), List.getElem?_drop, hA]
    congr 2
    omega
/-- the cells of a row -/
theorem CeL.loc {w : World} {B : Nat} {v : Value} {xs : List Cel} (h : CeL w B v xs) (hB : B ≤ w.heap.size) (hne : xs ≠ []) : ∃ b o c ls, v = .slice (some ⟨b, o, none⟩) xs.length c ∧ xs.length ≤ c ∧ b < B ∧ LOc w none none xs ls ∧ (∀ u ∈ ls, u.oneCell' = true) ∧ ∀ (j : Nat) (u : Value), ls[j]? = some u → w.cell? ⟨b, o + j, none⟩ = some u := by
  obtain ⟨a, c, rfl, hc, h3⟩ := h
  obtain ⟨b, o, rfl, hb, h4⟩ := h3 hne
  have hcell : ∀ k x, xs[k]? = some x → ∃ n a l cc s, (∀ i, i < 6 → w.cell? ⟨b, o + (k * 6 + i), none⟩ = some ((ce6 x n a l cc s).getD i undef)) ∧ VaC w B (.agg #[.int .i64 x.kind, .bool n, .slice a l cc, .int .u64 x.bits, .string s, .slice none 0 0]) x := by
    intro k x hk
    obtain ⟨n, p, l, cc, s, ⟨g0, g1, g2, g3, g4, g5⟩, h7⟩ := h4 k x hk
    refine ⟨n, p, l, cc, s, fun i hi => ?_, h7⟩
    rw [show o + (k * 6 + i) = o + k * 6 + i by omega]
    match i, hi with
    | 0, _ => exact g0
    | 1, _ => exact g1
    | 2, _ => exact g2
    | 3, _ => exact g3
    | 4, _ => exact g4
    | 5, _ => exact g5
  let ls := (List.range (xs.length * 6)).map fun j => (w.cell? ⟨b, o + j, none⟩).getD undef
  have hls : ∀ j, j < xs.length * 6 → ls[j]? = some ((w.cell? ⟨b, o + j, none⟩).getD undef) := by
    intro j hj
    simp [ls, hj]
  have hlen : ls.length = xs.length * 6 := by simp [ls]
  have hsome : ∀ j, j < xs.length * 6 → ∃ x n a l cc s, xs[j / 6]? = some x ∧ w.cell? ⟨b, o + j, none⟩ = some ((ce6 x n a l cc s).getD (j % 6) undef) := by
    intro j hj
    have hk : j / 6 < xs.length := by omega
    obtain ⟨n, a, l, cc, s, g1, _⟩ := hcell (j / 6) _ (List.getElem?_eq_getElem hk)
    refine ⟨_, n, a, l, cc, s, List.getElem?_eq_getElem hk, ?_⟩
    have := g1 (j % 6) (by omega)
    rwa [show j / 6 * 6 + j % 6 = j by omega] at this
  refine ⟨b, o, c, ls, rfl, hc, hb, ⟨hlen, fun k x hk => ?_⟩, ?_, ?_⟩
  · obtain ⟨n, a, l, cc, s, g1, g2⟩ := hcell k x hk
    have hkl : k < xs.length := (List.getElem?_eq_some_iff.1 hk).1
    refine ⟨n, a, l, cc, s, fun i hi => ?_, g2.more hB, fun y hy hl0 => ⟨?_, by simp, by simp⟩⟩
    · rw [List.getD_eq_getElem?_getD, hls _ (by omega), g1 i hi]; rfl
    · cases x with
      | int z =>
        obtain ⟨mag, e, ms, hm, a', c', hsl, _, hrd⟩ := g2
        simp only [Cel.bits, Value.agg.injEq, Array.mk.injEq, List.cons.injEq, Value.bool.injEq, Value.string.injEq, true_and, and_true] at e
        obtain ⟨_, _, rfl, _⟩ := e
        simp only [Value.slice.injEq] at hsl
        obtain ⟨rfl, rfl, rfl⟩ := hsl
        obtain ⟨b', o', rfl, hb', _⟩ := hrd (by intro e; rw [e] at hl0; simp at hl0)
        injection hy with hy
        subst hy
        exact Nat.lt_of_lt_of_le hb' hB
      | non => simp [VaC] at g2; obtain ⟨_, _, ⟨_, h0, _⟩, _⟩ := g2; exact absurd h0 hl0
      | boo b => simp [VaC] at g2; obtain ⟨_, _, ⟨_, h0, _⟩, _⟩ := g2; exact absurd h0 hl0
      | flt u => simp [VaC] at g2; obtain ⟨_, _, ⟨_, h0, _⟩, _⟩ := g2; exact absurd h0 hl0
      | str t => simp [VaC] at g2; obtain ⟨_, _, ⟨_, h0, _⟩, _⟩ := g2; exact absurd h0 hl0
      | byt t => simp [VaC] at g2; obtain ⟨_, _, ⟨_, h0, _⟩, _⟩ := g2; exact absurd h0 hl0
  · intro u hu
    obtain ⟨j, hj, rfl⟩ := List.mem_iff_getElem.1 hu
    have hj' : j < xs.length * 6 := by omega
    obtain ⟨x, n, a, l, cc, s, _, g⟩ := hsome j hj'
    have e := hls j hj'
    rw [List.getElem?_eq_getElem hj, g] at e
    injection e with e
    rw [e]
    have hm : j % 6 < (ce6 x n a l cc s).length := by simp [ce6]; omega
    rw [Option.getD_some, List.getD_eq_getElem?_getD, List.getElem?_eq_getElem hm]
    exact ce6_one x n a l cc s _ (List.getElem_mem hm)
  · intro j u hj
    have hj' : j < xs.length * 6 := by have := (List.getElem?_eq_some_iff.1 hj).1; omega
    obtain ⟨x, n, a, l, cc, s, _, g⟩ := hsome j hj'
    have e := hls j hj'
    rw [hj, g] at e
    injection e with e
    rw [g, e]; rfl
/-- a row of its own for the values without one -/
def OutPost (xs : List Cel) (k : Nat) (w : World) (e : Ending) (w' : World) : Prop := ∃ a c, e = .returned (.slice a (xs.eraseIdx k).length c) ∧ CeL w' w'.heap.size (.slice a (xs.eraseIdx k).length c) (xs.eraseIdx k) ∧ Below w.heap.size w w' ∧ ∀ y, a = some y → w.heap.size ≤ y.block
theorem owns_fresh {W : World} {B m s n c : Nat} {e : TypeId} {a : Option Addr} {xs : List Value} (h : W.ownsRow B e s (.slice a n c) m xs) : ∀ y, a = some y → B ≤ y.block := by
  intro y hy
  rcases h.2 with ⟨h0, _⟩ | ⟨g, cap, cur, h0, hb, _⟩
  · simp only [Value.slice.injEq] at h0
    rw [hy] at h0; cases h0.1
  · simp only [Value.slice.injEq] at h0
    rw [hy] at h0
    have := h0.1
    injection this with this
    subst this
    exact hb
theorem out_fin {xs : List Cel} {k : Nat} {w W0 w1 w2 : World} {ls : List Value} {v1 v2 : Value} (hk : k < xs.length) (hL : LOc w none none xs ls) (h0 : Below w.heap.size w W0) (hg0 : w.heap.size < W0.heap.size)
    (ho1 : v1.ownBlock = (Value.slice (some ⟨w.heap.size, 0, none⟩) 0 0).ownBlock ∨ v1.ownBlock = some W0.heap.size) (hg1 : W0.grownBy w1 (Value.slice (some ⟨w.heap.size, 0, none⟩) 0 0).ownBlock)
    (hr2 : w2.ownsRow w.heap.size 27 6 v2 (0 + k + (xs.length - (k + 1))) ([] ++ ls.take (k * 6) ++ ls.drop ((k + 1) * 6))) (hg2 : w1.grownBy w2 v1.ownBlock) : OutPost xs k w (.returned v2) w2 := by
  have hU1 : Up (some w.heap.size) W0 w1 := hg1
  have b1 : Below w.heap.size w w1 := h0.trans (hU1.below h0.size (fun j hj => by injection hj with hj; omega))
  have b2 : Below w.heap.size w w2 := b1.trans (Up.below (r := v1.ownBlock) hg2 b1.size (fun j hj => by
    rcases ho1 with h | h
    · rw [h] at hj; simp [Value.ownBlock] at hj; omega
    · rw [h] at hj; injection hj with hj; omega))
  have hL2 := (hL.same (SameC.of_below b2)).erase k hk
  have hn : 0 + k + (xs.length - (k + 1)) = (xs.eraseIdx k).length := by rw [List.length_eraseIdx_of_lt hk]; omega
  rw [hn, List.nil_append] at hr2
  obtain ⟨a, c, rfl, hc⟩ := LOc.val hL2 hr2
  exact ⟨a, c, rfl, hc, b2, owns_fresh hr2⟩
set_option maxHeartbeats 3200000 in
theorem without_any (xs : List Cel) (k : Nat) (a : Option Addr) (n c : Nat) (w : World) (h : CeL w w.heap.size (.slice a n c) xs) (hk : k < xs.length) (hlen : xs.length ≤ 1048576) :
    Calls Tryz.prog 23 #[.slice a n c, .int .i64 (k : Int), .int .i64 1] w (OutPost xs k w) := by
  obtain ⟨iV, hiV, hzV, hsV, hbV⟩ := info_parts info26
  obtain ⟨b, o, c', ls, hv, hnc, hbB, hL, hone, hcell⟩ := h.loc (Nat.le_refl _) (by intro e; rw [e] at hk; simp at hk)
  simp only [Value.slice.injEq] at hv
  obtain ⟨rfl, hn, rfl⟩ := hv
  have hll := hL.1
  have hb0 : Below w.heap.size w (w.drew.alloc (.cells #[] 27)) := (below_drew1 (Below.refl _ _)).alloc (Nat.le_refl _) _
  have OWN : Hid ((w.drew.alloc (.cells #[] 27)).ownsRow w.heap.size 27 6 (.slice (some ⟨w.heap.size, 0, none⟩) 0 0) 0 []) := Lib.hid (own_empty 6 (by have := Blk.new w.drew 27 []; simpa using this))
  have N1 : Hid (0 < k → ∃ ad, (some ⟨b, o, none⟩ : Option Addr) = some ad ∧ ∀ j u, (ls.take (k * 6))[j]? = some u → (w.drew.alloc (.cells #[] 27)).cell? (ad.add j) = some u) := Lib.hid (fun _ => ⟨_, rfl, fun j u hj => by
    rw [add_zero_off, hb0.cell (p := ⟨b, o + j, none⟩) hbB]
    refine hcell j u ?_
    rw [List.getElem?_take] at hj
    split at hj
    · exact hj
    · cases hj⟩)
  have L1 : Hid ((ls.take (k * 6)).length = k * 6) := Lib.hid (by rw [List.length_take, hll]; omega)
  have O1 : Hid (∀ u ∈ ls.take (k * 6), u.oneCell' = true) := Lib.hid (fun u hu => hone u (List.mem_of_mem_take hu))
  have L2 : Hid ((ls.drop ((k + 1) * 6)).length = (n - (k + 1)) * 6) := Lib.hid (by rw [List.length_drop, hll, hn]; omega)
  have O2 : Hid (∀ u ∈ ls.drop ((k + 1) * 6), u.oneCell' = true) := Lib.hid (fun u hu => hone u (List.mem_of_mem_drop hu))
  obtain ⟨A, hA, hN2⟩ : ∃ A : Addr, (if c = k + 1 then some (⟨b, o, none⟩ : Addr) else some ⟨b, o + (k + 1) * 6, none⟩) = some A ∧ Hid (0 < n - (k + 1) → A = ⟨b, o + (k + 1) * 6, none⟩) := by
    by_cases e : c = k + 1
    · exact ⟨_, if_pos e, Lib.hid (fun h => by omega)⟩
    · exact ⟨_, if_neg e, Lib.hid (fun _ => rfl)⟩
  have N2 : Hid (∀ w1, Below w.heap.size w w1 → 0 < n - (k + 1) → ∃ ad, (some A : Option Addr) = some ad ∧ ∀ j u, (ls.drop ((k + 1) * 6))[j]? = some u → w1.cell? (ad.add j) = some u) := Lib.hid (fun w1 hb1 h0 => ⟨_, rfl, fun j u hj => by
    rw [hN2.out h0, add_zero_off, hb1.cell (p := ⟨b, o + (k + 1) * 6 + j, none⟩) hbB]
    rw [List.getElem?_drop] at hj
    have := hcell _ u hj
    rwa [show o + ((k + 1) * 6 + j) = o + (k + 1) * 6 + j by omega] at this⟩)
  have BL : Hid (∀ w1, (w.drew.alloc (.cells #[] 27)).grownBy w1 (Value.slice (some ⟨w.heap.size, 0, none⟩) 0 0).ownBlock → Below w.heap.size w w1) := Lib.hid (fun w1 hg => by
    have hU : Up (some w.heap.size) (w.drew.alloc (.cells #[] 27)) w1 := hg
    exact hb0.trans (hU.below hb0.size (fun j hj => by injection hj with hj; omega)))
  have FIN : Hid (∀ (v1 : Value) (w1 : World) (v2 : Value) (w2 : World), (v1.ownBlock = (Value.slice (some ⟨w.heap.size, 0, none⟩) 0 0).ownBlock ∨ v1.ownBlock = some (w.drew.alloc (.cells #[] 27)).heap.size) → (w.drew.alloc (.cells #[] 27)).grownBy w1 (Value.slice (some ⟨w.heap.size, 0, none⟩) 0 0).ownBlock → w2.ownsRow w.heap.size 27 6 v2 (0 + k + (n - (k + 1))) ([] ++ ls.take (k * 6) ++ ls.drop ((k + 1) * 6)) → w1.grownBy w2 v1.ownBlock → OutPost xs k w (.returned v2) w2) := Lib.hid (fun v1 w1 v2 w2 h1 h2 h3 h4 => out_fin hk hL hb0 (by simp) h1 h2 (by rw [← hn]; exact h3) h4)
  have HBs : Hid (w.heap.size ≤ (w.drew.alloc (.cells #[] 27)).heap.size) := Lib.hid hb0.size
  have hkn : k < n := by omega
  have hnl : n ≤ 1048576 := by omega
  have hkc : k ≤ c := by omega
  have hwr : IntKind.i64.wrap ((k : Int) + 1) = (k : Int) + 1 := by rw [IntKind.wrap_i64]; omega
  have hp0 : (0 : Int) ≤ (k : Int) + 1 := by omega
  have hp1 : (k : Int) + 1 ≤ (n : Int) := by omega
  have hp2 : ((k : Int) + 1).toNat = k + 1 := by omega
  have hp3 : (0 : Int) ≤ (k : Int) := by omega
  have hp4 : (k : Int) ≤ (c : Int) := by omega
  have hnc2 : n ≤ c := by omega
  clear h hL hone hcell hll hb0 hN2 hk hlen hn hnc hbB
  go_enter Tryz.func23, Tryz.ntmps23
  go_wp2_with fail
  go_region_law ((first | (refine step_append_all _ (by rfl) (.tmp 7) (.tmp 10) 22 (by rfl) w.heap.size 27 iV _ 6 88 Tryz.underlying22 hiV hzV hsV hbV rfl (by decide) (.slice (some ⟨w.heap.size, 0, none⟩) 0 0) 0 [] (by simp [Act.eval, Act.put]) OWN.out (some ⟨b, o, none⟩) k c (ls.take (k * 6)) (by simp [Act.eval, Act.put]) L1.out N1.out O1.out (by unfold maxLen; omega) (by omega) HBs.out ?_; intro v1 w1 ho1 hg1 hat1; have HO1 := Lib.hid ho1; have HG1 := Lib.hid hg1; have HAT1 := Lib.hid hat1; have HB1 := Lib.hid (BL.out w1 hg1); clear ho1 hg1 hat1) | (refine step_append_all _ (by rfl) (.tmp 11) (.tmp 16) 22 (by rfl) w.heap.size 27 iV _ 6 88 Tryz.underlying22 hiV hzV hsV hbV rfl (by decide) v1 (0 + k) _ (by simp [Act.eval, Act.put]) HO1.out (some A) (n - (k + 1)) (c - (k + 1)) (ls.drop ((k + 1) * 6)) (by simp [Act.eval, Act.put]) L2.out (N2.out _ HB1.out) O2.out (by unfold maxLen; omega) (by omega) HB1.out.size ?_; intro v2 w2 ho2 hg2 hat2; have HF := Lib.hid (FIN.out _ _ _ _ HAT1.out HG1.out ho2 hg2); clear ho2 hg2 hat2)))
  all_goals (go_wp2_with fail)
  all_goals go_ret
  all_goals exact HF.out
end Go.Proofs.YtggpaejlmfppoaaGreat
