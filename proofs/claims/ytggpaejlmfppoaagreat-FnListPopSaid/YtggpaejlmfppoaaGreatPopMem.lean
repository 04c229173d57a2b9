/- A list of scalars in memory, what a place taken out of it leaves; the six cells of many values. -/
import Derived.Test.YtggpaejlmfppoaaGreatCelRel
import Derived.Test.YtggpaejlmfppoaaGreatClean
import Derived.Laws.IdiomCopy
namespace Go.Proofs.YtggpaejlmfppoaaGreat
open Go.RowKit Dig
set_option linter.unusedVariables false
set_option linter.unusedSimpArgs false
set_option maxRecDepth 100000

theorem Blk.sets {g : Nat} {e : TypeId} : ∀ (vs A B : List Value) (w : World), Blk w g e (A ++ B) → vs.length ≤ B.length → Blk (w.setCells g A.length vs) g e (A ++ vs ++ B.drop vs.length)
  | [], A, B, w, h, _ => by simpa [World.setCells] using h
  | v :: r, A, [], w, h, hl => by simp at hl
  | v :: r, A, b :: B, w, h, hl => by
    have h1 := h.set A.length v
    have e1 : (A ++ b :: B).set A.length v = (A ++ [v]) ++ B := by simp
    rw [e1] at h1
    have h2 := Blk.sets r (A ++ [v]) B _ h1 (by simpa using hl)
    have e2 : (A ++ [v]).length = A.length + 1 := by simp
    rw [e2] at h2
    have e3 : (A ++ [v]) ++ r ++ B.drop r.length = A ++ (v :: r) ++ (b :: B).drop (v :: r).length := by simp
    rw [e3] at h2
    exact h2
theorem Up.sets {g : Nat} : ∀ (vs : List Value) (o : Nat) (w W : World), Up (some g) w W → Up (some g) w (W.setCells g o vs)
  | [], _, _, _, h => h
  | v :: r, o, w, W, h => Up.sets r (o + 1) w _ (h.set o v)
theorem VaC.up_far {w' W : World} {g : Nat} {v : Value} {x : Cel} {L : List Value} {e : TypeId} (h : VaC w' w'.heap.size v x) (hk : Blk w' g e L) (hd : ∀ u ∈ L, ∀ m, u ≠ bv m) (hu : Up (some g) w' W) : VaC W W.heap.size v x := by
  have hsz := hu.size
  cases x with
  | int i =>
    obtain ⟨mag, e, ms, hm, hsl⟩ := h
    exact ⟨mag, e, ms, hm, (Sl.up_far hsl hk (not_bv hd ms) hu).more hsz⟩
  | non => exact h
  | boo b => exact h
  | flt u => exact h
  | str s => exact h
  | byt s => exact h

/-- a list of scalars: its block lb, the block g of its elements, and what is left behind them -/
def Lst (w : World) (lb g cap : Nat) (xs : List Cel) : Prop :=
  ∃ us rest : List Value, us.length = xs.length ∧ us.length + rest.length = cap ∧ (∀ u ∈ us ++ rest, ∃ T y, u = Value.iface T y) ∧ (∀ (k : Nat) (x : Cel), xs[k]? = some x → ∃ T y, us[k]? = some (Value.iface T y) ∧ SC w w.heap.size (.iface T y) x) ∧
    Blk w g 47 (us ++ rest) ∧ Blk w lb 110 [.slice (some ⟨g, 0, none⟩) xs.length cap, .bool false, .int .u32 0] ∧ lb ≠ g
theorem Lst.below {w w' : World} {lb g cap : Nat} {xs : List Cel} (h : Lst w lb g cap xs) (hb : Below w.heap.size w w') : Lst w' lb g cap xs := by
  obtain ⟨us, rest, h1, h2, h3, h4, h5, h6, h7⟩ := h
  exact ⟨us, rest, h1, h2, h3, fun k x hx => by obtain ⟨T, y, h8, h9⟩ := h4 k x hx; exact ⟨T, y, h8, (h9.below hb).more hb.size⟩, h5.below hb h5.lt, h6.below hb h6.lt, h7⟩
theorem Lst.cells {w : World} {lb g cap : Nat} {xs : List Cel} (h : Lst w lb g cap xs) :
    w.cell? ⟨lb, 0, none⟩ = some (.slice (some ⟨g, 0, none⟩) xs.length cap) ∧ w.cell? ⟨lb, 1, none⟩ = some (.bool false) ∧ w.cell? ⟨lb, 2, none⟩ = some (.int .u32 0) ∧ w.frozen? ⟨lb, 0, none⟩ = false ∧ lb < w.heap.size ∧ g < w.heap.size ∧ xs.length ≤ cap := by
  obtain ⟨us, rest, h1, h2, h3, h4, h5, h6, h7⟩ := h
  exact ⟨h6.cell 0 (by simp), h6.cell 1 (by simp), h6.cell 2 (by simp), h6.free 0, h6.lt, h5.lt, by omega⟩
theorem Lst.get {w : World} {lb g cap : Nat} {xs : List Cel} {k : Nat} {x : Cel} (h : Lst w lb g cap xs) (hx : xs[k]? = some x) : ∃ T y, w.cell? ⟨g, k, none⟩ = some (.iface T y) ∧ SC w w.heap.size (.iface T y) x := by
  obtain ⟨us, rest, h1, h2, h3, h4, h5, h6, h7⟩ := h
  obtain ⟨T, y, h8, h9⟩ := h4 k x hx
  have hk : k < us.length := (List.getElem?_eq_some_iff.1 h8).1
  refine ⟨T, y, ?_, h9⟩
  rw [h5.cell k (by simp; omega), List.getD_eq_getElem?_getD, List.getElem?_append_left hk, h8]; rfl
theorem no_wv {us : List Value} (h : ∀ u ∈ us, ∃ T y, u = Value.iface T y) : ∀ u ∈ us, ∀ m, u ≠ wv m := by
  intro u hu m
  obtain ⟨T, y, rfl⟩ := h u hu
  simp [wv]
/-- the element at k is out, those behind it have come one place nearer -/
theorem Lst.pop {w : World} {lb g cap k : Nat} {xs : List Cel} (h : Lst w lb g cap xs) (hk : k < xs.length) :
    ∃ vs : List Value, vs.length = xs.length - (k + 1) ∧ (∀ u ∈ vs, u.oneCell' = true) ∧ (∀ j u, vs[j]? = some u → w.cell? ⟨g, k + 1 + j, none⟩ = some u) ∧ (∀ j, j < vs.length → (w.cell? ⟨g, k + j, none⟩).isSome = true ∧ w.frozen? ⟨g, k + j, none⟩ = false) ∧
      (∀ W, W = w.setCells g k vs → (W.cell? ⟨lb, 0, none⟩ = some (.slice (some ⟨g, 0, none⟩) xs.length cap) ∧ W.frozen? ⟨lb, 0, none⟩ = false ∧ lb < W.heap.size) ∧
        (∀ W', W' = W.setCell ⟨lb, 0, none⟩ (.slice (some ⟨g, 0, none⟩) (xs.length - 1) cap) → Lst W' lb g cap (xs.eraseIdx k) ∧ (∀ u x, SC w w.heap.size u x → SC W' W'.heap.size u x) ∧ (∀ B, B ≤ g → B ≤ lb → Below B w W'))) := by
  obtain ⟨us, rest, h1, h2, h3, h4, h5, h6, h7⟩ := h
  have hvl : (us.drop (k + 1)).length = xs.length - (k + 1) := by simp [h1]
  have hku : k < us.length := by omega
  refine ⟨us.drop (k + 1), hvl, ?_, ?_, ?_, ?_⟩
  · intro u hu
    obtain ⟨T, y, rfl⟩ := h3 u (List.mem_append_left _ (List.mem_of_mem_drop hu))
    rfl
  · intro j u hj
    rw [List.getElem?_drop] at hj
    have hjl : k + 1 + j < us.length := (List.getElem?_eq_some_iff.1 hj).1
    rw [h5.cell (k + 1 + j) (by simp; omega), List.getD_eq_getElem?_getD, List.getElem?_append_left hjl, hj]; rfl
  · intro j hj
    rw [hvl] at hj
    exact ⟨by rw [h5.cell (k + j) (by simp; omega)]; rfl, h5.free (k + j)⟩
  · intro W hW
    have hA : (us.take k).length = k := by simp; omega
    have hs : Blk W g 47 (us.take k ++ us.drop (k + 1) ++ (us.drop k ++ rest).drop (us.drop (k + 1)).length) := by
      have := Blk.sets (g := g) (e := 47) (us.drop (k + 1)) (us.take k) (us.drop k ++ rest) w (by rw [← List.append_assoc, List.take_append_drop]; exact h5) (by simp; omega)
      rw [hA] at this
      rw [hW]; exact this
    have hu : Up (some g) w W := by rw [hW]; exact Up.sets _ _ _ _ (Up.refl _ _)
    have h6W : Blk W lb 110 [.slice (some ⟨g, 0, none⟩) xs.length cap, .bool false, .int .u32 0] := h6.up hu (by intro e; injection e with e; exact h7 e)
    refine ⟨⟨h6W.cell 0 (by simp), h6W.free 0, h6W.lt⟩, fun W' hW' => ?_⟩
    have hu2 : Up (some lb) W W' := by rw [hW']; exact (Up.refl _ _).set 0 _
    have hsc : ∀ u x, SC w w.heap.size u x → SC W' W'.heap.size u x := fun u x hx =>
      (((hx.up_far h5 (by decide) (no_wv h3) hu).more hu.size).up_far h6W (by decide) (by
        intro u hu m
        simp only [List.mem_cons, List.mem_nil_iff, or_false] at hu
        rcases hu with rfl | rfl | rfl <;> simp [wv]) hu2).more hu2.size
    have her : us.take k ++ us.drop (k + 1) = us.eraseIdx k := (List.eraseIdx_eq_take_drop_succ us k).symm
    rw [her] at hs
    refine ⟨⟨us.eraseIdx k, (us.drop k ++ rest).drop (us.drop (k + 1)).length, ?_, ?_, ?_, ?_, ?_, ?_, h7⟩, hsc, ?_⟩
    · rw [List.length_eraseIdx_of_lt hku, List.length_eraseIdx_of_lt hk, h1]
    · rw [List.length_eraseIdx_of_lt hku]; simp; omega
    · intro u hu
      rcases List.mem_append.1 hu with h | h
      · exact h3 u (List.mem_append_left _ (List.mem_of_mem_eraseIdx h))
      · have := List.mem_of_mem_drop h
        rcases List.mem_append.1 this with h | h
        · exact h3 u (List.mem_append_left _ (List.mem_of_mem_drop h))
        · exact h3 u (List.mem_append_right _ h)
    · intro j x hj
      rw [List.getElem?_eraseIdx] at hj
      rw [List.getElem?_eraseIdx]
      split at hj
      · rename_i hlt
        rw [if_pos hlt]
        obtain ⟨T, y, e1, e2⟩ := h4 j x hj
        exact ⟨T, y, e1, hsc _ _ e2⟩
      · rename_i hlt
        rw [if_neg hlt]
        obtain ⟨T, y, e1, e2⟩ := h4 (j + 1) x hj
        exact ⟨T, y, e1, hsc _ _ e2⟩
    · rw [hW']; exact hs.far (p := ⟨lb, 0, none⟩) (fun e => h7 e.symm) _
    · rw [hW', List.length_eraseIdx_of_lt hk]
      exact h6W.set 0 _
    · intro B hB1 hB2
      have b1 : Below B w W := hu.below (by have := h5.lt; omega) (fun k hk => by injection hk with hk; omega)
      exact b1.trans (hu2.below (by have := h6W.lt; omega) (fun k hk => by injection hk with hk; omega))
end Go.Proofs.YtggpaejlmfppoaaGreat
