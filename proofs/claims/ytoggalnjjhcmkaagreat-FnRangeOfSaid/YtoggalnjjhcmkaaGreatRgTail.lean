/- The law FnRangeOf: what its end wants. -/
import Derived.Test.YtoggalnjjhcmkaaGreatRgRel
namespace Go.Proofs.YtoggalnjjhcmkaaGreat
open Go.RowKit Dig
set_option linter.unusedVariables false
set_option linter.unusedSimpArgs false
set_option maxRecDepth 100000

/-! rows of the call's own -/
theorem own_int {w : World} {base e n : Nat} {v : Value} {xs : List Value} (h : w.ownsRow base e 1 v n xs) (hn : 0 < n) : ∃ g cap, v = .slice (some ⟨g, 0, none⟩) n cap := by
  rcases h.2 with ⟨rfl, h0⟩ | ⟨g, cap, cur, rfl, _⟩
  · omega
  · exact ⟨g, cap, rfl⟩
theorem own_cap {w : World} {base e n cap g : Nat} {xs : List Value} (h : w.ownsRow base e 1 (.slice (some ⟨g, 0, none⟩) n cap) n xs) : n ≤ cap := by
  rcases h.2 with ⟨h0, _⟩ | ⟨g, cap, cur, h0, _, _, h1, _⟩
  · cases h0
  · simp only [Value.slice.injEq] at h0
    omega
theorem own_cells {w : World} {base e n cap g : Nat} {xs : List Value} (h : w.ownsRow base e 1 (.slice (some ⟨g, 0, none⟩) n cap) n xs) (W : World) (hW : Below w.heap.size w W) (i : Nat) (hi : i < n) : W.cell? ⟨g, i, none⟩ = some (xs.getD i undef) := by
  rcases h.2 with ⟨h0, _⟩ | ⟨g', cap', cur, h0, hb, hg, hn, hc, hsz, ht⟩
  · cases h0
  · simp only [Value.slice.injEq, Option.some.injEq, Addr.mk.injEq, and_true, true_and] at h0
    obtain ⟨rfl, rfl⟩ := h0
    have hB : Blk w g e cur.toList := by unfold Blk; rw [hg]
    have hlen : i < cur.toList.length := by rw [Array.length_toList, hsz]; omega
    rw [(hB.below hW hB.lt).cell i hlen, ← ht, List.getD_eq_getElem?_getD, List.getD_eq_getElem?_getD, List.getElem?_take, if_pos (by omega)]
theorem cap_three {n c : Nat} (h : n ≤ c) (h3 : 3 ≤ n) : (3 : Int) ≤ (c : Int) := by omega
theorem own_base {w : World} {base e s n : Nat} {v : Value} {xs : List Value} (h : w.ownsRow base e s v n xs) : ∀ k, v.ownBlock = some k → base ≤ k := fun k hk => (h.lt k hk).1
theorem own_alloc {w : World} {base e s n : Nat} {v : Value} {xs : List Value} (h : w.ownsRow base e s v n xs) (x : Obj) : (w.alloc x).ownsRow base e s v n xs := by
  have hb : Below w.heap.size w (w.alloc x) := (Below.refl _ _).alloc (Nat.le_refl _) _
  have hg : w.grownBy (w.alloc x) none := ⟨hb.os, hb.tape, hb.output, hb.size, fun k hk _ => hb.block k hk⟩
  exact h.kept hg (by cases v.ownBlock <;> simp)
theorem below_grown {w w' : World} {base : Nat} {r : Option Nat} (hg : w.grownBy w' r) (hB : base ≤ w.heap.size) (hr : ∀ k, r = some k → base ≤ k) : Below base w w' := (Below.refl base w).grown hg hB hr
theorem sl_one {w : World} {b e : Nat} {u : Value} (h : Blk w b e [u]) : Sl w (b + 1) (.slice (some ⟨b, 0, none⟩) 1 1) [u] :=
  Sl.mk (vs := [u]) (h.rd (by simp) (fun i _ => by rw [Nat.zero_add])) (Nat.le_refl _) (by omega)

/-- start, stop and step that the law wants -/
def want3 : List Scal → Int × Int × Int
  | [a] => (0, numOf a, 1)
  | [a, b] => (numOf a, numOf b, 1)
  | [a, b, c] => (numOf a, numOf b, numOf c)
  | _ => (0, 0, 0)
theorem rg_want {xs : List Scal} (h1 : 1 ≤ xs.length) (h3 : xs.length ≤ 3) : rg xs = if xs.all isInt && decide ((want3 xs).2.2 ≠ 0) then some (want3 xs) else none := by
  match xs, h1, h3 with
  | [a], _, _ => cases a <;> simp [rg, isInt, want3, numOf]
  | [a, b], _, _ => cases a <;> cases b <;> simp [rg, isInt, want3, numOf]
  | [a, b, c], _, _ =>
    cases a <;> cases b <;> cases c <;> simp [rg, isInt, want3, numOf]
    split <;> simp_all
theorem sm_r32 {x : Scal} (h : Sm x) : R32 (numOf x) := by
  cases x with
  | non => exact ⟨by decide, by decide⟩
  | int i => exact h
  | str s => cases h
/-- three numbers are counted -/
theorem range3_any (n : Bool) (a : Option Addr) (l c : Nat) (W : World) (hv : Va W W.heap.size (.agg #[.int .i64 2, .bool n, .slice a l c, .int .u64 0, .string ByteArray.empty, .slice none 0 0]) 3) :
    Calls Tryz.prog 10 #[.slice (some ⟨W.heap.size, 0, none⟩) 1 1] (W.alloc (.cells #[.int .i64 2, .bool n, .slice a l c, .int .u64 0, .string ByteArray.empty, .slice none 0 0] 26)) fun e w' => e = .returned (.tuple #[.int .i64 0, .int .i64 3, .int .i64 1, .int .i64 3, .bool true, .bool true]) ∧ Below W.heap.size W w' := by
  have hb : Below W.heap.size W (W.alloc (.cells #[.int .i64 2, .bool n, .slice a l c, .int .u64 0, .string ByteArray.empty, .slice none 0 0] 26)) := (Below.refl _ _).alloc (Nat.le_refl _) _
  have hk := Blk.new W 26 [.int .i64 2, .bool n, .slice a l c, .int .u64 0, .string ByteArray.empty, .slice none 0 0]
  have hv' := (hv.below hb).more hb.size
  refine (implRange_any [.int 3] (some ⟨W.heap.size, 0, none⟩) 1 _ ⟨_, _, rfl, Nat.le_refl _, fun _ => ⟨W.heap.size, 0, rfl, hk.lt, fun k x hx => ?_⟩⟩ (fun x hx => by simp at hx; subst hx; exact ⟨by decide, by decide⟩) (by simp) (by simp)).mono ?_
  · have hk0 : k = 0 := by
      have := (List.getElem?_eq_some_iff.1 hx).1
      simp at this; omega
    subst hk0
    simp at hx
    subst hx
    exact ⟨n, a, l, c, ByteArray.empty, ⟨hk.cell 0 (by simp), hk.cell 1 (by simp), hk.cell 2 (by simp), hk.cell 3 (by simp), hk.cell 4 (by simp), hk.cell 5 (by simp)⟩, hv'⟩
  · rintro e w' ⟨hb', ⟨x, y, z, hr, rfl⟩ | ⟨hr, rfl⟩⟩
    · simp only [rg, Option.some.injEq, Prod.mk.injEq] at hr
      obtain ⟨rfl, rfl, rfl⟩ := hr
      have e3 : cnt 0 3 1 = 3 := by decide
      rw [e3]
      exact ⟨rfl, hb.trans (hb'.mono hb.size)⟩
    · simp [rg] at hr
end Go.Proofs.YtoggalnjjhcmkaaGreat
