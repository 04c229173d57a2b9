/- A row of scalars of all kinds that grows; nothing but its block has turned. -/
import Derived.Test.YtggpaejlmfppoaaGreatCels
import Derived.Test.YtggpaejlmfppoaaGreatMBase
import Derived.Maps.AppendAt
namespace Go.Proofs.YtggpaejlmfppoaaGreat
open Go.RowKit Dig
set_option linter.unusedVariables false
set_option linter.unusedSimpArgs false
set_option maxRecDepth 100000

/-- the six cells of a value that stands for a scalar -/
def ce6 (x : Cel) (n : Bool) (a : Option Addr) (l c : Nat) (s : ByteArray) : List Value := [.int .i64 x.kind, .bool n, .slice a l c, .int .u64 x.bits, .string s, .slice none 0 0]
/-- such a value, its memory clear of two blocks -/
def Clc (W : World) (o1 o2 : Option Nat) (x : Cel) (n : Bool) (a : Option Addr) (l c : Nat) (s : ByteArray) : Prop :=
  VaC W W.heap.size (.agg #[.int .i64 x.kind, .bool n, .slice a l c, .int .u64 x.bits, .string s, .slice none 0 0]) x ∧ ∀ y, a = some y → l ≠ 0 → y.block < W.heap.size ∧ some y.block ≠ o1 ∧ some y.block ≠ o2
/-- nothing has turned but two blocks -/
def SameC (o1 o2 : Option Nat) (W W' : World) : Prop := W.heap.size ≤ W'.heap.size ∧ ∀ k, k < W.heap.size → some k ≠ o1 → some k ≠ o2 → W'.heap[k]? = W.heap[k]?
theorem SameC.of_below {o1 o2 : Option Nat} {W W' : World} (h : Below W.heap.size W W') : SameC o1 o2 W W' := ⟨h.size, fun k hk _ _ => h.block k hk⟩
theorem SameC.trans {o1 o2 : Option Nat} {W W' W'' : World} (h : SameC o1 o2 W W') (k : SameC o1 o2 W' W'') : SameC o1 o2 W W'' :=
  ⟨Nat.le_trans h.1 k.1, fun i hi h1 h2 => (k.2 i (Nat.lt_of_lt_of_le hi h.1) h1 h2).trans (h.2 i hi h1 h2)⟩
theorem Sl.sameC {W W' : World} {o1 o2 : Option Nat} {a : Option Addr} {l c : Nat} {vs : List Value} (h : Sl W W.heap.size (.slice a l c) vs) (hs : SameC o1 o2 W W') (hc : ∀ y, a = some y → l ≠ 0 → y.block < W.heap.size ∧ some y.block ≠ o1 ∧ some y.block ≠ o2) : Sl W' W'.heap.size (.slice a l c) vs := by
  obtain ⟨a', c', hv, h1, hr⟩ := h
  simp only [Value.slice.injEq] at hv
  obtain ⟨rfl, rfl, rfl⟩ := hv
  refine ⟨_, _, rfl, h1, fun hne => ?_⟩
  obtain ⟨b, o, rfl, hb, hrd⟩ := hr hne
  obtain ⟨g1, g2, g3⟩ := hc _ rfl (by intro e; exact hne (List.eq_nil_of_length_eq_zero e))
  refine ⟨b, o, rfl, Nat.lt_of_lt_of_le hb hs.1, hrd.keep fun i _ => ?_⟩
  exact World.cell?_of_block (a := ⟨b, o + i, none⟩) (hs.2 b g1 g2 g3)
theorem Clc.same {W W' : World} {o1 o2 : Option Nat} {x : Cel} {n : Bool} {a : Option Addr} {l c : Nat} {s : ByteArray} (h : Clc W o1 o2 x n a l c s) (hs : SameC o1 o2 W W') : Clc W' o1 o2 x n a l c s := by
  obtain ⟨h1, h2⟩ := h
  refine ⟨?_, fun y hy hl => ⟨Nat.lt_of_lt_of_le (h2 y hy hl).1 hs.1, (h2 y hy hl).2⟩⟩
  cases x with
  | non => exact h1
  | str t => exact h1
  | byt t => exact h1
  | flt u => exact h1
  | boo b => exact h1
  | int i =>
    obtain ⟨mag, e, ms, hm, hsl⟩ := h1
    simp only [Cel.bits, Value.agg.injEq, Array.mk.injEq, List.cons.injEq, Value.bool.injEq, Value.string.injEq, true_and, and_true] at e
    obtain ⟨_, rfl, rfl, rfl⟩ := e
    exact ⟨_, rfl, ms, hm, hsl.sameC hs h2⟩
/-- other blocks have become the rows' -/
theorem Clc.turn {W : World} {o1 o2 p1 p2 : Option Nat} {x : Cel} {n : Bool} {a : Option Addr} {l c : Nat} {s : ByteArray} (h : Clc W o1 o2 x n a l c s) (H : Nat) (hH : ∀ y, a = some y → l ≠ 0 → y.block < H) (h1 : p1 = o1 ∨ ∀ k, p1 = some k → H ≤ k) (h2 : p2 = o2 ∨ ∀ k, p2 = some k → H ≤ k) : Clc W p1 p2 x n a l c s := by
  refine ⟨h.1, fun y hy hl => ⟨(h.2 y hy hl).1, fun e => ?_, fun e => ?_⟩⟩
  · rcases h1 with h1 | h1
    · exact (h.2 y hy hl).2.1 (e.trans h1)
    · have := h1 _ e.symm; have := hH y hy hl; omega
  · rcases h2 with h2 | h2
    · exact (h.2 y hy hl).2.2 (e.trans h2)
    · have := h2 _ e.symm; have := hH y hy hl; omega
/-- the row of values -/
def LOc (W : World) (o1 o2 : Option Nat) (xs : List Cel) (ls : List Value) : Prop :=
  ls.length = xs.length * 6 ∧ ∀ j x, xs[j]? = some x → ∃ n a l c s, (∀ i, i < 6 → ls.getD (j * 6 + i) undef = (ce6 x n a l c s).getD i undef) ∧ Clc W o1 o2 x n a l c s
theorem LOc.nil (W : World) (o1 o2 : Option Nat) : LOc W o1 o2 [] [] := ⟨rfl, fun j x h => by simp at h⟩
theorem LOc.same {W W' : World} {o1 o2 : Option Nat} {xs : List Cel} {ls : List Value} (h : LOc W o1 o2 xs ls) (hs : SameC o1 o2 W W') : LOc W' o1 o2 xs ls :=
  ⟨h.1, fun j x hj => by obtain ⟨n, a, l, c, s, h1, h2⟩ := h.2 j x hj; exact ⟨n, a, l, c, s, h1, h2.same hs⟩⟩
theorem LOc.add {W W' : World} {o1 o2 p1 p2 : Option Nat} {xs : List Cel} {ls : List Value} {x : Cel} {n : Bool} {a : Option Addr} {l c : Nat} {s : ByteArray} (h : LOc W o1 o2 xs ls) (hx : Clc W o1 o2 x n a l c s) (hs : SameC o1 o2 W W')
    (h1 : p1 = o1 ∨ ∀ k, p1 = some k → W.heap.size ≤ k) (h2 : p2 = o2 ∨ ∀ k, p2 = some k → W.heap.size ≤ k) : LOc W' p1 p2 (xs ++ [x]) (ls ++ ce6 x n a l c s) := by
  refine ⟨by rw [List.length_append, h.1, List.length_append]; simp [ce6]; omega, fun j y hj => ?_⟩
  rcases Nat.lt_or_ge j xs.length with hlt | hge
  · rw [List.getElem?_append_left hlt] at hj
    obtain ⟨n', a', l', c', s', g1, g2⟩ := h.2 j y hj
    refine ⟨n', a', l', c', s', fun i hi => ?_, (g2.same hs).turn W.heap.size (fun y hy hl => (g2.2 y hy hl).1) h1 h2⟩
    rw [← g1 i hi, List.getD_eq_getElem?_getD, List.getD_eq_getElem?_getD, List.getElem?_append_left (by rw [h.1]; omega)]
  · have hjl : j < (xs ++ [x]).length := (List.getElem?_eq_some_iff.1 hj).1
    obtain rfl : j = xs.length := by simp at hjl; omega
    rw [List.getElem?_append_right (Nat.le_refl _), Nat.sub_self] at hj
    simp at hj
    subst hj
    refine ⟨n, a, l, c, s, fun i hi => ?_, (hx.same hs).turn W.heap.size (fun y hy hl => (hx.2 y hy hl).1) h1 h2⟩
    rw [List.getD_eq_getElem?_getD, List.getElem?_append_right (by rw [h.1]; omega), h.1, Nat.add_sub_cancel_left, ← List.getD_eq_getElem?_getD]
/-- the row is what RangeOf takes -/
theorem LOc.val {W : World} {o1 o2 : Option Nat} {B : Nat} {v : Value} {xs : List Cel} {ls : List Value} (h : LOc W o1 o2 xs ls) (hr : W.ownsRow B 27 6 v xs.length ls) : ∃ a c, v = .slice a xs.length c ∧ CeL W W.heap.size (.slice a xs.length c) xs := by
  rcases hr.2 with ⟨rfl, h0⟩ | ⟨g, cap, cur, rfl, hb, hg, hn, hc, hsz, ht⟩
  · rw [h0]
    refine ⟨none, 0, rfl, none, 0, by rw [h0], by omega, fun hne => absurd (List.eq_nil_of_length_eq_zero h0) hne⟩
  · refine ⟨_, cap, rfl, _, cap, rfl, hn, fun hne => ⟨g, 0, rfl, ?_, fun k x hk => ?_⟩⟩
    · rcases Nat.lt_or_ge g W.heap.size with hlt | hge
      · exact hlt
      · rw [Array.getElem?_eq_none hge] at hg; cases hg
    · obtain ⟨n, a, l, c, s, g1, g2⟩ := h.2 k x hk
      have hkl : k < xs.length := (List.getElem?_eq_some_iff.1 hk).1
      have hcell : ∀ i, i < 6 → W.cell? ⟨g, 0 + k * 6 + i, none⟩ = some ((ce6 x n a l c s).getD i undef) := by
        intro i hi
        have hB : Blk W g 27 cur.toList := by unfold Blk; rw [hg]
        have hlen : k * 6 + i < cur.toList.length := by rw [Array.length_toList, hsz]; omega
        rw [Nat.zero_add, hB.cell _ hlen, ← g1 i hi, ← ht, List.getD_eq_getElem?_getD, List.getD_eq_getElem?_getD, List.getElem?_take, if_pos (by omega)]
      exact ⟨n, a, l, c, s, ⟨hcell 0 (by omega), hcell 1 (by omega), hcell 2 (by omega), hcell 3 (by omega), hcell 4 (by omega), hcell 5 (by omega)⟩, g2.1⟩
end Go.Proofs.YtggpaejlmfppoaaGreat
