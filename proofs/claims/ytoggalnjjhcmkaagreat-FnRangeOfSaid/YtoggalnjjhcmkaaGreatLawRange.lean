/- The law FnRangeOf: its walk (printed by genlawrange.py). -/
import Derived.Test.YtoggalnjjhcmkaaGreatRgTail
import Derived.Test.YtoggalnjjhcmkaaGreatInfoVal
import Derived.Deep.CutRange
import Derived.Deep.RegionHeld3
import Derived.Deep.RegionLaw
import Derived.Lib.MinMax
import Derived.Outline
namespace Go.Proofs.YtoggalnjjhcmkaaGreat
open Go.RowKit Dig
set_option linter.unusedVariables false
set_option linter.unusedSimpArgs false
set_option maxRecDepth 100000

/-- what is drawn as an argument of range -/
def strip (x : Scal) : Scal := match x with | .str _ => .non | x => x
theorem strip_sm (k i : Int) : Sm (strip (stepOf k i)) := by
  unfold stepOf
  by_cases h2 : k = 2
  · rw [if_pos h2]; exact wrap32_bd _
  · rw [if_neg h2]
    by_cases h4 : k = 4
    · rw [if_pos h4]; trivial
    · rw [if_neg h4]; trivial
theorem clr_st6 {w2 : World} {g : Nat} {o1 o2 : Option Nat} {x : Scal} {n : Bool} {a : Option Addr} {l c : Nat} {s : ByteArray} (hva : VaS w2 w2.heap.size (.agg #[.int .i64 x.kind, .bool n, .slice a l c, .int .u64 0, .string s, .slice none 0 0]) x) (hlt : ∀ y, a = some y → g < y.block) (h1 : ∀ k, o1 = some k → k < g) (h2 : ∀ k, o2 = some k → k < g) (v0 v1 v2 v3 v4 v5 : Value) :
    Clr ((((((w2.setCell ⟨g, 0, none⟩ v0).setCell ⟨g, 1, none⟩ v1).setCell ⟨g, 2, none⟩ v2).setCell ⟨g, 3, none⟩ v3).setCell ⟨g, 4, none⟩ v4).setCell ⟨g, 5, none⟩ v5) o1 o2 x n a l c s := by
  have hup : ∀ y, a = some y → l ≠ 0 → y.block < w2.heap.size := by
    intro y hy hl
    cases x with
    | non => simp [VaS] at hva; obtain ⟨_, _, ⟨_, h0, _⟩, _⟩ := hva; exact absurd h0 hl
    | str t => simp [VaS] at hva; obtain ⟨_, _, ⟨_, h0, _⟩, _⟩ := hva; exact absurd h0 hl
    | int i =>
      obtain ⟨mag, e, ms, hm, a', c', hsl, _, hr⟩ := hva
      simp only [Value.agg.injEq, Array.mk.injEq, List.cons.injEq, Value.bool.injEq, Value.string.injEq, true_and, and_true] at e
      obtain ⟨_, _, rfl, _⟩ := e
      simp only [Value.slice.injEq] at hsl
      obtain ⟨rfl, rfl, rfl⟩ := hsl
      obtain ⟨b, o, rfl, hb, _⟩ := hr (by intro e; rw [e] at hl; simp at hl)
      injection hy with hy
      subst hy
      exact hb
  have c0 : Clr w2 (some g) none x n a l c s := ⟨hva, fun y hy hl => ⟨hup y hy hl, by simp; have := hlt y hy; omega, by simp⟩⟩
  have hs : Same (some g) none w2 ((((((w2.setCell ⟨g, 0, none⟩ v0).setCell ⟨g, 1, none⟩ v1).setCell ⟨g, 2, none⟩ v2).setCell ⟨g, 3, none⟩ v3).setCell ⟨g, 4, none⟩ v4).setCell ⟨g, 5, none⟩ v5) := by
    have hu := (((((((Up.refl (some g) w2).set 0 v0).set 1 v1).set 2 v2).set 3 v3).set 4 v4).set 5 v5)
    exact ⟨hu.size, fun k hk h _ => hu.block k hk h⟩
  obtain ⟨d1, d2⟩ := c0.same hs
  refine ⟨d1, fun y hy hl => ⟨(d2 y hy hl).1, fun e => ?_, fun e => ?_⟩⟩
  · have := h1 _ e.symm; have := hlt y hy; omega
  · have := h2 _ e.symm; have := hlt y hy; omega
theorem blk_st6 {w2 : World} {g : Nat} {L : List Value} (hk : Blk w2 g 26 L) (hl : L.length = 6) (v0 v1 v2 v3 v4 v5 : Value) :
    Blk ((((((w2.setCell ⟨g, 0, none⟩ v0).setCell ⟨g, 1, none⟩ v1).setCell ⟨g, 2, none⟩ v2).setCell ⟨g, 3, none⟩ v3).setCell ⟨g, 4, none⟩ v4).setCell ⟨g, 5, none⟩ v5) g 26 [v0, v1, v2, v3, v4, v5] := by
  obtain ⟨u0, u1, u2, u3, u4, u5, rfl⟩ : ∃ u0 u1 u2 u3 u4 u5, L = [u0, u1, u2, u3, u4, u5] := by
    match L, hl with
    | [v0, v1, v2, v3, v4, v5], _ => exact ⟨v0, v1, v2, v3, v4, v5, rfl⟩
  exact (((((hk.set 0 v0).set 1 v1).set 2 v2).set 3 v3).set 4 v4).set 5 v5
/-- what the law's rounds keep -/
def LrRel (xf : Nat → Scal) (N : Nat) (w W1 : World) (s5 s6 s7 i : Value) (wr : World) : Prop :=
  ∃ (k : Nat) (ls : List Value), k ≤ N ∧ i = .int .i64 (k : Int) ∧ (∃ fb : Bool, s7 = .bool fb ∧ Hid (fb = ((List.range k).map xf).all isInt)) ∧
    Hid (wr.ownsRow (w.heap.size + 1) 26 6 s5 k ls) ∧ Hid (wr.ownsRow (w.heap.size + 1) 3 1 s6 k (((List.range k).map xf).map fun x => .int .i64 (numOf x))) ∧
    Hid (LOk wr s5.ownBlock s6.ownBlock ((List.range k).map xf) ls) ∧ Hid (Below (w.heap.size + 1) W1 wr)
theorem six_cells {W : World} {g : Nat} {x : Scal} {n : Bool} {a : Option Addr} {l c : Nat} {s : ByteArray} (h : Blk W g 26 (sc6 x n a l c s)) :
    W.cell? ⟨g, 0, none⟩ = some (.int .i64 x.kind) ∧ W.cell? ⟨g, 1, none⟩ = some (.bool n) ∧ W.cell? ⟨g, 2, none⟩ = some (.slice a l c) ∧ W.cell? ⟨g, 3, none⟩ = some (.int .u64 0) ∧ W.cell? ⟨g, 4, none⟩ = some (.string s) ∧ W.cell? ⟨g, 5, none⟩ = some (.slice none 0 0) :=
  ⟨h.cell 0 (by simp [sc6]), h.cell 1 (by simp [sc6]), h.cell 2 (by simp [sc6]), h.cell 3 (by simp [sc6]), h.cell 4 (by simp [sc6]), h.cell 5 (by simp [sc6])⟩
theorem Clr.va {W : World} {o1 o2 : Option Nat} {x : Scal} {n : Bool} {a : Option Addr} {l c : Nat} {s : ByteArray} (h : Clr W o1 o2 x n a l c s) : VaS W W.heap.size (.agg #[.int .i64 x.kind, .bool n, .slice a l c, .int .u64 0, .string s, .slice none 0 0]) x := h.1
theorem oneCell_sc6 (x : Scal) (n : Bool) (a : Option Addr) (l c : Nat) (s : ByteArray) : ∀ u ∈ sc6 x n a l c s, u.oneCell' = true := by
  intro u hu
  simp only [sc6, List.mem_cons, List.mem_nil_iff, or_false] at hu
  rcases hu with rfl | rfl | rfl | rfl | rfl | rfl <;> rfl
/-- what stands ahead of the two appends -/
def LrCut (x : Scal) (g k : Nat) (xs : List Scal) (ls : List Value) (w W1 : World) (s5 s6 : Value) (wx : World) : Prop :=
  ∃ n a l c s, Hid (Blk wx g 26 (sc6 x n a l c s)) ∧ Hid (Clr wx s5.ownBlock s6.ownBlock x n a l c s) ∧ Hid (wx.ownsRow (w.heap.size + 1) 26 6 s5 k ls) ∧ Hid (wx.ownsRow (w.heap.size + 1) 3 1 s6 k (xs.map fun x => .int .i64 (numOf x))) ∧ Hid (LOk wx s5.ownBlock s6.ownBlock xs ls) ∧ Hid (Below (w.heap.size + 1) W1 wx)
theorem lrCut_mk {x : Scal} {k : Nat} {xs : List Scal} {ls : List Value} {w W1 wr wx : World} {s5 s6 : Value} {n : Bool} {a : Option Addr} {l c : Nat} {s : ByteArray} (hbx : Below wr.heap.size wr wx) (hwr : w.heap.size + 1 ≤ wr.heap.size) (hk : Blk wx wr.heap.size 26 (sc6 x n a l c s)) (hc : Clr wx s5.ownBlock s6.ownBlock x n a l c s)
    (h5 : wr.ownsRow (w.heap.size + 1) 26 6 s5 k ls) (h6 : wr.ownsRow (w.heap.size + 1) 3 1 s6 k (xs.map fun x => .int .i64 (numOf x))) (hl : LOk wr s5.ownBlock s6.ownBlock xs ls) (hB : Below (w.heap.size + 1) W1 wr) : LrCut x wr.heap.size k xs ls w W1 s5 s6 wx := by
  have hg : wr.grownBy wx none := ⟨hbx.os, hbx.tape, hbx.output, hbx.size, fun k hk _ => hbx.block k hk⟩
  exact ⟨n, a, l, c, s, hk, hc, h5.kept hg (by cases s5.ownBlock <;> simp), h6.kept hg (by cases s6.ownBlock <;> simp), hl.same (Same.of_below hbx), hB.trans (hbx.mono hwr)⟩
set_option maxHeartbeats 3200000 in
theorem lawRange (kd : Nat → Int) (nb : Nat → Bool) (ma : Nat → Option Addr) (ml mc : Nat → Nat) (ub : Nat → Int) (tx : Nat → ByteArray) (ka : Nat → Option Addr) (kn kc : Nat → Nat) (ms : Nat → List Nat) (nn : Nat) (w : World) (hn : nn < 256) (hms : ∀ j, j < 3 → ∀ x ∈ ms j, x < 256) (hlen : ∀ j, j < 3 → (ms j).length ≤ 140737488355328) (hsl : ∀ j, j < 3 → Sl w w.heap.size (.slice (ma j) (ml j) (mc j)) ((ms j).map bv)) :
    Calls Tryz.prog 3 #[.agg #[.int .i64 (kd 0), .bool (nb 0), .slice (ma 0) (ml 0) (mc 0), .int .u64 (ub 0), .string (tx 0), .slice (ka 0) (kn 0) (kc 0), .int .i64 (kd 1), .bool (nb 1), .slice (ma 1) (ml 1) (mc 1), .int .u64 (ub 1), .string (tx 1), .slice (ka 1) (kn 1) (kc 1), .int .i64 (kd 2), .bool (nb 2), .slice (ma 2) (ml 2) (mc 2), .int .u64 (ub 2), .string (tx 2), .slice (ka 2) (kn 2) (kc 2)], .int .u8 (nn : Int)] w fun e w' => e = .returned (.bool true) ∧ Below w.heap.size w w' := by
  obtain ⟨r, hr⟩ : ∃ r, r = nn % 3 := ⟨_, rfl⟩
  have hr2 : r ≤ 2 := by omega
  have hrI : (nn : Int) % 3 = (r : Int) := by omega
  have hr0 : (0 : Int) ≤ (r : Int) := by omega
  have hrI2 : (r : Int) ≤ 2 := by omega
  have hrI3 : (0 : Int) ≤ 1 + (r : Int) := by omega
  have hrI4 : (1 : Int) + (r : Int) ≤ 3 := by omega
  have hwr : IntKind.u8.wrap (1 + (r : Int)) = 1 + (r : Int) := by unfold IntKind.wrap; simp [IntKind.bits, IntKind.signed]; omega
  clear hr
  obtain ⟨W1, hW1⟩ : ∃ W1, W1 = w.alloc (.cells #[.int .i64 (kd 0), .bool (nb 0), .slice (ma 0) (ml 0) (mc 0), .int .u64 (ub 0), .string (tx 0), .slice (ka 0) (kn 0) (kc 0), .int .i64 (kd 1), .bool (nb 1), .slice (ma 1) (ml 1) (mc 1), .int .u64 (ub 1), .string (tx 1), .slice (ka 1) (kn 1) (kc 1), .int .i64 (kd 2), .bool (nb 2), .slice (ma 2) (ml 2) (mc 2), .int .u64 (ub 2), .string (tx 2), .slice (ka 2) (kn 2) (kc 2)] 27) := ⟨_, rfl⟩
  have FI : ∀ W, Calls Tryz.prog 7 #[.agg #[.int .i64 (kd 0), .bool (nb 0), .slice (ma 0) (ml 0) (mc 0), .int .u64 (ub 0), .string (tx 0), .slice (ka 0) (kn 0) (kc 0), .int .i64 (kd 1), .bool (nb 1), .slice (ma 1) (ml 1) (mc 1), .int .u64 (ub 1), .string (tx 1), .slice (ka 1) (kn 1) (kc 1), .int .i64 (kd 2), .bool (nb 2), .slice (ma 2) (ml 2) (mc 2), .int .u64 (ub 2), .string (tx 2), .slice (ka 2) (kn 2) (kc 2)]] W fun e w' => e = .returned (.bool true) ∧ Below W.heap.size W w' := by
    intro W
    go_enter Tryz.func7, Tryz.ntmps7
    go_wp2_with fail
    go_ret
    exact ⟨rfl, (Below.refl _ _).alloc (Nat.le_refl _) _⟩
  have F := Lib.hid FI
  clear FI
  subst hW1
  have hrow : (w.alloc (.cells #[.int .i64 (kd 0), .bool (nb 0), .slice (ma 0) (ml 0) (mc 0), .int .u64 (ub 0), .string (tx 0), .slice (ka 0) (kn 0) (kc 0), .int .i64 (kd 1), .bool (nb 1), .slice (ma 1) (ml 1) (mc 1), .int .u64 (ub 1), .string (tx 1), .slice (ka 1) (kn 1) (kc 1), .int .i64 (kd 2), .bool (nb 2), .slice (ma 2) (ml 2) (mc 2), .int .u64 (ub 2), .string (tx 2), .slice (ka 2) (kn 2) (kc 2)] 27)).heap[w.heap.size]? = some (.cells #[.int .i64 (kd 0), .bool (nb 0), .slice (ma 0) (ml 0) (mc 0), .int .u64 (ub 0), .string (tx 0), .slice (ka 0) (kn 0) (kc 0), .int .i64 (kd 1), .bool (nb 1), .slice (ma 1) (ml 1) (mc 1), .int .u64 (ub 1), .string (tx 1), .slice (ka 1) (kn 1) (kc 1), .int .i64 (kd 2), .bool (nb 2), .slice (ma 2) (ml 2) (mc 2), .int .u64 (ub 2), .string (tx 2), .slice (ka 2) (kn 2) (kc 2)] 27 (0, 0)) := heap_alloc_new w _
  go_enter Tryz.func3, Tryz.ntmps3
  go_wp2_with (refine wpList_load_row rfl 27 (.tmp 2) rfl w.heap.size rfl 27 _ (0, 0) _ hrow Tryz.underlying27 rfl (by kernel_rfl) ?_)
  clear hrow
  refine (F.out _).mono ?_
  rintro e w1 ⟨rfl, hb1⟩
  have HR0 : Hid (∀ W, Below (w.heap.size + 1) (w.alloc (.cells #[.int .i64 (kd 0), .bool (nb 0), .slice (ma 0) (ml 0) (mc 0), .int .u64 (ub 0), .string (tx 0), .slice (ka 0) (kn 0) (kc 0), .int .i64 (kd 1), .bool (nb 1), .slice (ma 1) (ml 1) (mc 1), .int .u64 (ub 1), .string (tx 1), .slice (ka 1) (kn 1) (kc 1), .int .i64 (kd 2), .bool (nb 2), .slice (ma 2) (ml 2) (mc 2), .int .u64 (ub 2), .string (tx 2), .slice (ka 2) (kn 2) (kc 2)] 27)) W → ∀ k, k < 3 → W.cell? ⟨w.heap.size, k * 6, none⟩ = some (.int .i64 (kd k)) ∧ W.cell? ⟨w.heap.size, k * 6 + 1, none⟩ = some (.bool (nb k)) ∧ W.cell? ⟨w.heap.size, k * 6 + 2, none⟩ = some (.slice (ma k) (ml k) (mc k)) ∧ W.cell? ⟨w.heap.size, k * 6 + 3, none⟩ = some (.int .u64 (ub k)) ∧ W.cell? ⟨w.heap.size, k * 6 + 4, none⟩ = some (.string (tx k)) ∧ W.cell? ⟨w.heap.size, k * 6 + 5, none⟩ = some (.slice (ka k) (kn k) (kc k))) := Lib.hid (by
    intro W hW k hk
    have hB : Blk (w.alloc (.cells #[.int .i64 (kd 0), .bool (nb 0), .slice (ma 0) (ml 0) (mc 0), .int .u64 (ub 0), .string (tx 0), .slice (ka 0) (kn 0) (kc 0), .int .i64 (kd 1), .bool (nb 1), .slice (ma 1) (ml 1) (mc 1), .int .u64 (ub 1), .string (tx 1), .slice (ka 1) (kn 1) (kc 1), .int .i64 (kd 2), .bool (nb 2), .slice (ma 2) (ml 2) (mc 2), .int .u64 (ub 2), .string (tx 2), .slice (ka 2) (kn 2) (kc 2)] 27)) w.heap.size 27 [.int .i64 (kd 0), .bool (nb 0), .slice (ma 0) (ml 0) (mc 0), .int .u64 (ub 0), .string (tx 0), .slice (ka 0) (kn 0) (kc 0), .int .i64 (kd 1), .bool (nb 1), .slice (ma 1) (ml 1) (mc 1), .int .u64 (ub 1), .string (tx 1), .slice (ka 1) (kn 1) (kc 1), .int .i64 (kd 2), .bool (nb 2), .slice (ma 2) (ml 2) (mc 2), .int .u64 (ub 2), .string (tx 2), .slice (ka 2) (kn 2) (kc 2)] := Blk.new w 27 [.int .i64 (kd 0), .bool (nb 0), .slice (ma 0) (ml 0) (mc 0), .int .u64 (ub 0), .string (tx 0), .slice (ka 0) (kn 0) (kc 0), .int .i64 (kd 1), .bool (nb 1), .slice (ma 1) (ml 1) (mc 1), .int .u64 (ub 1), .string (tx 1), .slice (ka 1) (kn 1) (kc 1), .int .i64 (kd 2), .bool (nb 2), .slice (ma 2) (ml 2) (mc 2), .int .u64 (ub 2), .string (tx 2), .slice (ka 2) (kn 2) (kc 2)]
    have hB' := hB.below hW (by omega)
    match k, hk with
    | 0, _ => exact ⟨hB'.cell 0 (by simp), hB'.cell 1 (by simp), hB'.cell 2 (by simp), hB'.cell 3 (by simp), hB'.cell 4 (by simp), hB'.cell 5 (by simp)⟩
    | 1, _ => exact ⟨hB'.cell 6 (by simp), hB'.cell 7 (by simp), hB'.cell 8 (by simp), hB'.cell 9 (by simp), hB'.cell 10 (by simp), hB'.cell 11 (by simp)⟩
    | 2, _ => exact ⟨hB'.cell 12 (by simp), hB'.cell 13 (by simp), hB'.cell 14 (by simp), hB'.cell 15 (by simp), hB'.cell 16 (by simp), hB'.cell 17 (by simp)⟩)
  have HSL : Hid (∀ W, Below (w.heap.size + 1) (w.alloc (.cells #[.int .i64 (kd 0), .bool (nb 0), .slice (ma 0) (ml 0) (mc 0), .int .u64 (ub 0), .string (tx 0), .slice (ka 0) (kn 0) (kc 0), .int .i64 (kd 1), .bool (nb 1), .slice (ma 1) (ml 1) (mc 1), .int .u64 (ub 1), .string (tx 1), .slice (ka 1) (kn 1) (kc 1), .int .i64 (kd 2), .bool (nb 2), .slice (ma 2) (ml 2) (mc 2), .int .u64 (ub 2), .string (tx 2), .slice (ka 2) (kn 2) (kc 2)] 27)) W → ∀ k, k < 3 → Sl W W.heap.size (.slice (ma k) (ml k) (mc k)) ((ms k).map bv)) := Lib.hid (by
    intro W hW k hk
    have hb : Below w.heap.size w W := ((Below.refl _ _).alloc (Nat.le_refl _) _).trans (hW.mono (by omega))
    exact ((hsl k hk).below hb).more hb.size)
  have hb1' : Below (w.heap.size + 1) (w.alloc (.cells #[.int .i64 (kd 0), .bool (nb 0), .slice (ma 0) (ml 0) (mc 0), .int .u64 (ub 0), .string (tx 0), .slice (ka 0) (kn 0) (kc 0), .int .i64 (kd 1), .bool (nb 1), .slice (ma 1) (ml 1) (mc 1), .int .u64 (ub 1), .string (tx 1), .slice (ka 1) (kn 1) (kc 1), .int .i64 (kd 2), .bool (nb 2), .slice (ma 2) (ml 2) (mc 2), .int .u64 (ub 2), .string (tx 2), .slice (ka 2) (kn 2) (kc 2)] 27)) w1 := by simpa using hb1
  obtain ⟨xf, hxf⟩ : ∃ xf : Nat → Scal, xf = fun k => strip (stepOf (kd k) (rawI (nb k) (ms k))) := ⟨_, rfl⟩
  obtain ⟨W1, hW1⟩ : ∃ W1, W1 = w.alloc (.cells #[.int .i64 (kd 0), .bool (nb 0), .slice (ma 0) (ml 0) (mc 0), .int .u64 (ub 0), .string (tx 0), .slice (ka 0) (kn 0) (kc 0), .int .i64 (kd 1), .bool (nb 1), .slice (ma 1) (ml 1) (mc 1), .int .u64 (ub 1), .string (tx 1), .slice (ka 1) (kn 1) (kc 1), .int .i64 (kd 2), .bool (nb 2), .slice (ma 2) (ml 2) (mc 2), .int .u64 (ub 2), .string (tx 2), .slice (ka 2) (kn 2) (kc 2)] 27) := ⟨_, rfl⟩
  have hs1 : w.heap.size + 1 ≤ w1.heap.size := by have := hb1.size; simpa using this
  rw [← hW1] at HR0 HSL hb1'
  have HW1 : Hid (w.heap.size + 1 ≤ W1.heap.size) := Lib.hid (by rw [hW1]; simp)
  have HWB0 : Hid (Below w.heap.size w W1) := Lib.hid (by rw [hW1]; exact (Below.refl _ _).alloc (Nat.le_refl _) _)
  have START : Hid (LrRel xf (1 + r) w W1 (.slice none 0 0) (.slice (some ⟨w1.heap.size, 0, none⟩) 0 0) (.bool true) (.int .i64 0) (w1.alloc (.cells #[] 3))) := Lib.hid (by
    refine ⟨0, [], Nat.zero_le _, rfl, ⟨true, rfl, rfl⟩, World.ownsRow_nil _ _ _ _, ?_, LOk.nil _ _ _, hb1'.alloc hs1 _⟩
    refine ⟨rfl, .inr ⟨w1.heap.size, 0, #[], rfl, hs1, heap_alloc_new w1 _, Nat.le_refl _, by simp [maxLen], rfl, rfl⟩⟩)
  have ST : Hid (∀ k, k < 3 → ∀ W, Below (w.heap.size + 1) W1 W → Calls Tryz.prog 8 #[.agg #[.int .i64 (kd k), .bool (nb k), .slice (ma k) (ml k) (mc k), .int .u64 (ub k), .string (tx k), .slice (ka k) (kn k) (kc k)]] W (StPost (stepOf (kd k) (rawI (nb k) (ms k))) W)) := Lib.hid (fun k hk W hW => steps32_any (kd k) (nb k) _ (ub k) (tx k) (ka k) (kn k) (kc k) (ms k) W (hms k hk) (hlen k hk) (HSL.out W hW k hk))
  have HXF := Lib.hid hxf
  clear hms hlen hsl hb1 hb1' hwr F hxf hW1
  go_wp2_with fail
  clear hrI
  go_loopw [5, 6, 7, 32] (LrRel xf (1 + r) w W1) (fun _ _ _ i _ => 1 + r - (intOf i).toNat)
  case atStart => exact START.out
  case round =>
    obtain ⟨k, ls, hk, rfl, ⟨fb, rfl, hfb⟩, hL, hNu, hLO, hB⟩ := hrel
    clear START
    by_cases hlt : k < 1 + r
    · obtain ⟨p0, p1, p2, p3, p4, p5⟩ := HR0.out wr hB.out k (by omega)
      obtain ⟨y, hy⟩ : ∃ y, y = stepOf (kd k) (rawI (nb k) (ms k)) := ⟨_, rfl⟩
      have hB0 : Below (w.heap.size + 1) W1 (wr.alloc (.cells #[.int .i64 (kd k), .bool (nb k), .slice (ma k) (ml k) (mc k), .int .u64 (ub k), .string (tx k), .slice (ka k) (kn k) (kc k)] 26)) := hB.out.alloc (Nat.le_trans HW1.out hB.out.size) _
      have C := Lib.hid (ST.out k (by omega) _ hB0)
      rw [← hy] at C
      have HY := Lib.hid hy
      have i1 : (0 : Int) ≤ (k : Int) := by omega
      have i2 : (k : Int) < 1 + (r : Int) := by omega
      have i3 : (k : Int) < 3 := by omega
      clear hy hB0 HR0 HSL ST
      go_wp2_with fail
      refine C.out.mono ?_
      rintro e w2 ⟨n, a, l, c, s, rfl, hva, hb2, hfr⟩
      have hwr1 : w.heap.size + 1 ≤ wr.heap.size := Nat.le_trans HW1.out hB.out.size
      have hk2 := (Blk.new wr 26 [.int .i64 (kd k), .bool (nb k), .slice (ma k) (ml k) (mc k), .int .u64 (ub k), .string (tx k), .slice (ka k) (kn k) (kc k)]).below hb2 (by simp)
      have hb3 : Below wr.heap.size wr w2 := ((Below.refl _ _).alloc (Nat.le_refl _) _).trans (hb2.mono (by simp))
      have q0 := hk2.cell 0 (by simp)
      have q1 := hk2.cell 1 (by simp)
      have q2 := hk2.cell 2 (by simp)
      have q3 := hk2.cell 3 (by simp)
      have q4 := hk2.cell 4 (by simp)
      have q5 := hk2.cell 5 (by simp)
      have fz := hk2.free
      have f0 := fz 0
      have f1 := fz 1
      have f2 := fz 2
      have f3 := fz 3
      have f4 := fz 4
      have f5 := fz 5
      have hlt2 := hk2.lt
      have HK2 := Lib.hid hk2; have HB3 := Lib.hid hb3; have HVA := Lib.hid hva; have HWR1 := Lib.hid hwr1
      have HFR : Hid (∀ y, a = some y → wr.heap.size < y.block) := Lib.hid (fun y hy => by have := hfr y hy; simp at this; omega)
      have O1 : Hid (∀ k, u5.ownBlock = some k → k < wr.heap.size) := Lib.hid (fun k hk => (hL.out.lt k hk).2)
      have O2 : Hid (∀ k, u6.ownBlock = some k → k < wr.heap.size) := Lib.hid (fun k hk => (hNu.out.lt k hk).2)
      clear hva hb2 hfr hk2 hb3 fz C hwr1
      go_upto_if 40 with fail
      go_cut [5] from 41 to 41 (fun v wx => v = u5 ∧ LrCut (strip y) wr.heap.size k ((List.range k).map xf) ls w W1 u5 u6 wx)
      case first =>
        cases y with
        | non =>
          have kq : ((Scal.non.kind : Int) == 4) = false := by simp [Scal.kind]
          go_wp2_with fail
          go_meet
          case rel =>
            have hbx := HB3.out
            refine ⟨rfl, lrCut_mk (n := n) (a := a) (l := l) (c := c) (s := s) ?_ HWR1.out (blk_st6 HK2.out rfl _ _ _ _ _ _) (clr_st6 HVA.out HFR.out O1.out O2.out _ _ _ _ _ _) hL.out hNu.out hLO.out hB.out⟩
            exact (((((hbx.setCell (Nat.le_refl _) _).setCell (Nat.le_refl _) _).setCell (Nat.le_refl _) _).setCell (Nat.le_refl _) _).setCell (Nat.le_refl _) _).setCell (Nat.le_refl _) _
        | int i =>
          have kq : (((Scal.int i).kind : Int) == 4) = false := by simp [Scal.kind]
          go_wp2_with fail
          go_meet
          case rel =>
            have hbx := HB3.out
            refine ⟨rfl, lrCut_mk (n := n) (a := a) (l := l) (c := c) (s := s) ?_ HWR1.out (blk_st6 HK2.out rfl _ _ _ _ _ _) (clr_st6 HVA.out HFR.out O1.out O2.out _ _ _ _ _ _) hL.out hNu.out hLO.out hB.out⟩
            exact (((((hbx.setCell (Nat.le_refl _) _).setCell (Nat.le_refl _) _).setCell (Nat.le_refl _) _).setCell (Nat.le_refl _) _).setCell (Nat.le_refl _) _).setCell (Nat.le_refl _) _
        | str t =>
          have kq : (((Scal.str t).kind : Int) == 4) = true := by simp [Scal.kind]
          go_wp2_with fail
          go_meet
          case rel =>
            have hbx := HB3.out
            refine ⟨rfl, lrCut_mk (x := .non) (n := false) (a := none) (l := 0) (c := 0) (s := ByteArray.empty) ?_ HWR1.out (blk_st6 (blk_st6 HK2.out rfl _ _ _ _ _ _) rfl _ _ _ _ _ _) ⟨rfl, fun y hy => by cases hy⟩ hL.out hNu.out hLO.out hB.out⟩
            exact (((((((((((hbx.setCell (Nat.le_refl _) _).setCell (Nat.le_refl _) _).setCell (Nat.le_refl _) _).setCell (Nat.le_refl _) _).setCell (Nat.le_refl _) _).setCell (Nat.le_refl _) _).setCell (Nat.le_refl _) _).setCell (Nat.le_refl _) _).setCell (Nat.le_refl _) _).setCell (Nat.le_refl _) _).setCell (Nat.le_refl _) _).setCell (Nat.le_refl _) _
      case rest =>
        obtain ⟨rfl, n', a', l', c', s', hBk, hCl, hL', hN', hO', hB'⟩ := hcut
        obtain ⟨x, hx⟩ : ∃ x, x = strip y := ⟨_, rfl⟩
        rw [← hx] at hBk hCl
        have hsm : Sm x := by rw [hx, HY.out]; exact strip_sm _ _
        have hxk : x = xf k := by rw [hx, HY.out, HXF.out]
        have hT0 := TwoRows.start hL'.out hN'.out (by decide) (Nat.le_trans HW1.out hB'.out.size)
        have HS := Lib.hid hT0
        have hO1 : Hid (∀ k, u5.ownBlock = some k → k ≠ wr.heap.size) := Lib.hid (fun k hk => by have := O1.out k hk; omega)
        have hO2 : Hid (∀ k, u6.ownBlock = some k → k ≠ wr.heap.size) := Lib.hid (fun k hk => by have := O2.out k hk; omega)
        have HSM := Lib.hid hsm
        have HXK := Lib.hid hxk
        obtain ⟨iV, hiV, hzV, hsV, hbV⟩ := info_parts info26
        obtain ⟨iI, hiI, hzI, hsI, hbI⟩ := info_parts info3
        obtain ⟨g0, g1, g2, g3, g4, g5⟩ := six_cells hBk.out
        clear hx hsm hxk hT0 hL hNu hLO hB HVA HFR O1 O2 HK2 HB3 q0 q1 q2 q3 q4 q5 f0 f1 f2 f3 f4 f5 hlt2 p0 p1 p2 p3 p4 p5 i1 i2 i3
        have KEEP : Hid (∀ W, Same u5.ownBlock u6.ownBlock wc W → W.cell? ⟨wr.heap.size, 0, none⟩ = some (.int .i64 x.kind) ∧ W.cell? ⟨wr.heap.size, 1, none⟩ = some (.bool n') ∧ W.cell? ⟨wr.heap.size, 2, none⟩ = some (.slice a' l' c') ∧ W.cell? ⟨wr.heap.size, 3, none⟩ = some (.int .u64 0) ∧ W.cell? ⟨wr.heap.size, 4, none⟩ = some (.string s') ∧ W.cell? ⟨wr.heap.size, 5, none⟩ = some (.slice none 0 0)) := Lib.hid (fun W hW => by
          have e : ∀ j, W.cell? ⟨wr.heap.size, j, none⟩ = wc.cell? ⟨wr.heap.size, j, none⟩ := fun j => World.cell?_of_block (a := ⟨wr.heap.size, j, none⟩) (hW.2 _ hBk.out.lt (fun e => hO1.out _ e.symm rfl) (fun e => hO2.out _ e.symm rfl))
          obtain ⟨g0, g1, g2, g3, g4, g5⟩ := six_cells hBk.out
          exact ⟨(e 0).trans g0, (e 1).trans g1, (e 2).trans g2, (e 3).trans g3, (e 4).trans g4, (e 5).trans g5⟩)
        cases fb with
        | true =>
          go_wp2_with fail
          go_region_held3 (fun w' => w'.cell? ⟨wr.heap.size, 0, none⟩ = some (.int .i64 x.kind) ∧ w'.cell? ⟨wr.heap.size, 1, none⟩ = some (.bool n') ∧ w'.cell? ⟨wr.heap.size, 2, none⟩ = some (.slice a' l' c') ∧ w'.cell? ⟨wr.heap.size, 3, none⟩ = some (.int .u64 0) ∧ w'.cell? ⟨wr.heap.size, 4, none⟩ = some (.string s') ∧ w'.cell? ⟨wr.heap.size, 5, none⟩ = some (.slice none 0 0)) (first | with_reducible exact KEEP.out _ (HS.out.drew).sameW | with_reducible exact KEEP.out _ ((HS.out.alloc _ _).drew).sameW | with_reducible exact KEEP.out _ (((HS.out.alloc _ _).alloc _ _).drew).sameW | with_reducible exact KEEP.out _ (HS.out).sameW | with_reducible exact KEEP.out _ (HS.out.alloc _ _).sameW | with_reducible exact KEEP.out _ ((HS.out.alloc _ _).alloc _ _).sameW) ((first | (go_at_call 9; (with_reducible refine (numScal_any x n' a' l' c' s' _ HSM.out (Clr.va (hCl.out.same HS.out.sameW))).mono ?_); rintro e w3 ⟨rfl, hb3⟩; have HS := Lib.hid (HS.out.call hb3); clear hb3) | (refine step_append_row1 (by rfl) (.tmp 42) (.tmp 44) 24 (by rfl) iV _ 88 Tryz.underlying24 hiV hzV hsV hbV rfl (by decide) wc.heap.size 26 (sc6 x n' a' l' c' s') (by rfl) (by rfl) (HS.out.alloc _ _).drew (by simp [sc6]) rfl (by intro u hu; exact oneCell_sc6 x n' a' l' c' s' u hu) (by omega) (by decide) ?_; intro v' w' R'; have HS := Lib.hid R'; clear R') | (refine step_append_row2 (by rfl) (.tmp 46) (.tmp 49) 29 (by rfl) iI _ 8 Tryz.underlying29 hiI hzI hsI hbI rfl (by decide) w3.heap.size 3 [.int .i64 (numOf x)] (by rfl) (by rfl) (HS.out.alloc _ _) (by simp) rfl (by simp [Value.oneCell']) (by omega) (by decide) ?_; intro v2' w4' R'; have HS := Lib.hid R'; clear R')))
          all_goals
            have R : LrRel xf (1 + r) w W1 v' v2' (.bool (x.kind == 2)) (.int .i64 ((k : Int) + 1)) w4' := by
              have hx := HXK.out
              have e1 : (List.range (k + 1)).map xf = (List.range k).map xf ++ [x] := by rw [List.range_succ, List.map_append, hx]; rfl
              have hR := HS.out
              refine ⟨k + 1, ls ++ sc6 x n' a' l' c' s', by omega, by simp, ⟨_, rfl, ?_⟩, hR.r1, ?_, ?_, hB'.out.trans hR.below⟩
              · show _ = _
                rw [e1, List.all_append, ← hfb.out]; cases x <;> simp [isInt, Scal.kind]
              · show World.ownsRow _ _ _ _ _ _ _
                rw [e1, List.map_append]
                exact hR.r2
              · show LOk _ _ _ _ _
                rw [e1]
                exact hO'.out.add hCl.out hR.sameW hR.b1 hR.b2
            have HR := Lib.hid R
            clear R HS
            go_wp2_with fail
            go_roundw
            case rel => first | exact HR.out | ((repeat apply Exists.intro); exact ⟨HR.out, rfl⟩)
            case measure => simp [intOf]; omega
        | false =>
          go_wp2_with fail
          have hgl := hBk.out.lt
          (first | go_region_law ((first | (refine step_append_row1 (by rfl) (.tmp 42) (.tmp 44) 24 (by rfl) iV _ 88 Tryz.underlying24 hiV hzV hsV hbV rfl (by decide) wc.heap.size 26 (sc6 x n' a' l' c' s') (by rfl) (by rfl) (HS.out.alloc _ _).drew (by simp [sc6]) rfl (by intro u hu; exact oneCell_sc6 x n' a' l' c' s' u hu) (by omega) (by decide) ?_; intro v' w' R'; have HS := Lib.hid R'; clear R'; obtain ⟨h0, h1, h2, h3, h4, h5⟩ := KEEP.out _ HS.out.sameW) | (refine step_append_row2 (by rfl) (.tmp 46) (.tmp 49) 29 (by rfl) iI _ 8 Tryz.underlying29 hiI hzI hsI hbI rfl (by decide) w3.heap.size 3 [.int .i64 (numOf x)] (by rfl) (by rfl) (HS.out.alloc _ _) (by simp) rfl (by simp [Value.oneCell']) (by omega) (by decide) ?_; intro v2' w4' R'; have HS := Lib.hid R'; clear R') | (go_simp; go_at_call 9; (with_reducible refine (numScal_any x n' a' l' c' s' _ HSM.out (Clr.va (hCl.out.same HS.out.sameW))).mono ?_); rintro e w3 ⟨rfl, hb3⟩; have HS := Lib.hid (HS.out.call hb3); clear hb3; obtain ⟨h0, h1, h2, h3, h4, h5⟩ := KEEP.out _ HS.out.sameW))) | fail)
          all_goals
            have R : LrRel xf (1 + r) w W1 v' v2' (.bool false) (.int .i64 ((k : Int) + 1)) w4' := by
              have hx := HXK.out
              have e1 : (List.range (k + 1)).map xf = (List.range k).map xf ++ [x] := by rw [List.range_succ, List.map_append, hx]; rfl
              have hR := HS.out
              refine ⟨k + 1, ls ++ sc6 x n' a' l' c' s', by omega, by simp, ⟨_, rfl, ?_⟩, hR.r1, ?_, ?_, hB'.out.trans hR.below⟩
              · show _ = _
                rw [e1, List.all_append, ← hfb.out]; simp
              · show World.ownsRow _ _ _ _ _ _ _
                rw [e1, List.map_append]
                exact hR.r2
              · show LOk _ _ _ _ _
                rw [e1]
                exact hO'.out.add hCl.out hR.sameW hR.b1 hR.b2
            have HR := Lib.hid R
            clear R HS
            go_wp2_with fail
            go_roundw
            case rel => first | exact HR.out | ((repeat apply Exists.intro); exact ⟨HR.out, rfl⟩)
            case measure => simp [intOf]; omega
    · obtain rfl : k = 1 + r := by omega
      clear ST
      obtain ⟨xs, hxs⟩ : ∃ xs, xs = (List.range (1 + r)).map xf := ⟨_, rfl⟩
      have hxl : xs.length = 1 + r := by rw [hxs]; simp
      have hxm : ∀ x ∈ xs, Sm x := by
        intro x hx
        rw [hxs] at hx
        obtain ⟨j, _, rfl⟩ := List.mem_map.1 hx
        rw [HXF.out]; exact strip_sm _ _
      rw [← hxs] at hfb hNu hLO
      obtain ⟨a5, c5, rfl, hval⟩ := LOk.val hLO.out (by rw [hxl]; exact hL.out)
      rw [hxl] at hval
      have HXM := Lib.hid hxm
      have hwr1 : Hid (w.heap.size + 1 ≤ wr.heap.size) := Lib.hid (Nat.le_trans HW1.out hB.out.size)
      have hS6 : Sl wr wr.heap.size u6 (xs.map fun x => .int .i64 (numOf x)) := Sl.of_own (by rw [List.length_map, hxl]; exact hNu.out)
      obtain ⟨a6, c6, rfl, h6c, h6r⟩ := id hS6
      rw [List.length_map, hxl] at h6c
      obtain ⟨g6, o6, rfl, h6b, h6d⟩ := h6r (by intro h; have := congrArg List.length h; simp [hxl] at this)
      obtain ⟨iI, hiI, hzI, hsI, hbI⟩ := info_parts info3
      have HIS : Hid ((Tryz.prog.info? 3).map (·.size) = some 1) := Lib.hid (by rw [hiI]; simp [hsI])
      have H6 := Lib.hid h6d
      have HS6 := Lib.hid hS6
      have HFB := Lib.hid hfb.out
      have DONE : Hid (∀ W, Below wr.heap.size wr W → Below w.heap.size w W) := Lib.hid (fun W hW => by
        have h1 : Below (w.heap.size + 1) W1 W := hB.out.trans (hW.mono hwr1.out)
        exact HWB0.out.trans (h1.mono (by omega)))
      have hcap6 : 1 + r ≤ c6 := h6c
      clear hxm hS6 h6d h6r HXF HR0 HSL HW1 hfb h6c HWB0
      rw [List.length_map, hxl] at *
      have hr3 : r = 0 ∨ r = 1 ∨ r = 2 := by omega
      clear hrI2 hrI3 hrI4 hr0 hr2 hlt hk
      rcases hr3 with rfl | rfl | rfl
      · skip
        obtain ⟨x0, rfl⟩ : ∃ x0, xs = [x0] := by
          match xs, hxl with
          | [x0], _ => exact ⟨x0, rfl⟩
        have m0 : wr.cell? ⟨g6, o6 + 0, none⟩ = some (.int .i64 (numOf x0)) := H6.out 0 (by simp)
        have HXL := Lib.hid hxl
        clear hxs hxl
        have HWB := Lib.hid (Blk.new wr 3 [.int .i64 0, .int .i64 (numOf x0), .int .i64 1])
        have HP : Hid (∀ (j : Nat) (v : Value), ([] : List Value)[j]? = some v → (wr.alloc (.cells #[.int .i64 0, .int .i64 (numOf x0), .int .i64 1] 3)).cell? ((⟨g6, o6, none⟩ : Addr).add j) = some v) := Lib.hid (by
          intro j v hj
          rw [add_zero_off]
          have hjl : j < 0 := by
            have := (List.getElem?_eq_some_iff.1 hj).1
            simp at this
          have e := (Below.refl wr.heap.size wr).alloc (Nat.le_refl _) (.cells #[.int .i64 0, .int .i64 (numOf x0), .int .i64 1] 3)
          rw [e.cell (p := ⟨g6, o6 + j, none⟩) h6b]
          omega)
        simp only [Nat.add_zero] at m0
        have hci0 : (0 : Int) ≤ (c6 : Int) := by omega
        have hcn0 : 0 ≤ c6 := by omega
        have hci1 : (1 : Int) ≤ (c6 : Int) := by omega
        have hcn1 : 1 ≤ c6 := by omega
        have hmx : max (0 : Int) 0 = 0 := by decide
        have hmw : IntKind.i64.wrap (0 : Int) = 0 := by decide
        go_wp2_with fail
        go_region_held3 (fun _ => True) (trivial) ((first | (refine step_copy_up (by rfl) (.tmp 63) (.tmp 69) 29 29 (by rfl) 3 Tryz.underlying29 HIS.out (some ⟨wr.heap.size, 0, none⟩) (some ⟨g6, o6, none⟩) 2 3 0 c6 (by rfl) (by rfl) wr.heap.size 0 _ 3 HWB.out [] (by rfl) (fun _ => ⟨rfl, ⟨g6, o6, none⟩, rfl, HP.out⟩) (by simp) (by simp [Value.oneCell']) (wr.alloc (.cells #[.int .i64 0, .int .i64 (numOf x0), .int .i64 1] 3)) ((Up.refl _ _).drewN 1) ?_; intro w2 HK2 HU2) | fail))
        have HB2 : Hid (Below wr.heap.size wr w2) := Lib.hid (((Below.refl wr.heap.size wr).alloc (Nat.le_refl _) _).trans (HU2.out.below (by simp) (fun k hk => by injection hk with hk; omega)))
        clear HU2 HP HWB
        have HBQ := HB2
        have HQ : Hid (∀ W, Below w2.heap.size w2 W → W.cell? ⟨wr.heap.size, 0, none⟩ = some (.int .i64 (0 : Int)) ∧ W.cell? ⟨wr.heap.size, 1, none⟩ = some (.int .i64 (numOf x0)) ∧ W.cell? ⟨wr.heap.size, 2, none⟩ = some (.int .i64 (1 : Int))) := Lib.hid (fun W hW => by
          have hk := HK2.out.below hW HK2.out.lt
          rw [splice_nil] at hk
          exact ⟨hk.cell 0 (by simp), hk.cell 1 (by simp), hk.cell 2 (by simp)⟩)
        clear HK2 HB2
        have p2 := (HQ.out w2 (Below.refl _ _)).2.2
        have HR3 : Hid (R32 (0 : Int) ∧ R32 (numOf x0) ∧ R32 (1 : Int)) := Lib.hid ⟨⟨by decide, by decide⟩, sm_r32 (HXM.out _ (by simp)), ⟨by decide, by decide⟩⟩
        have RO : Hid (Calls Tryz.prog 10 #[.slice a5 1 c5] w2 (IrPost [x0] w2)) := Lib.hid (implRange_any [x0] a5 c5 w2 ((hval.below HBQ.out).more HBQ.out.size) (fun x hx => HXM.out x hx) (by simp) (by simp))
        have EN : Hid (∀ W3, Calls Tryz.prog 12 #[.int .i64 3] W3 (SpPost 3 W3)) := Lib.hid (fun W3 => small_any 3 W3 (by decide) (by decide))
        have TD : Hid (∀ W3 v, Sp W3 W3.heap.size v 3 → Calls Tryz.prog 11 #[v] W3 (VaPost 3 W3)) := Lib.hid (fun W3 v hv => told_any v 3 W3 hv (small_lim 3 (by decide) (by decide)))
        have HRG := Lib.hid (rg_want (xs := [x0]) (by simp) (by simp))
        clear hNu hLO hL hB hval HXM HXL HS6 H6 hwr1
        cases fb with
        | false =>
          have HN : Hid (rg [x0] = none) := Lib.hid (by rw [HRG.out, ← HFB.out]; rfl)
          clear HFB
          clear HRG
          go_wp2_with fail
          refine RO.out.mono ?_
          rintro e w3 ⟨hb3, ⟨q1, q2, q3, hr, rfl⟩ | ⟨hr, rfl⟩⟩
          · rw [HN.out] at hr; cases hr
          have HB3 := Lib.hid (HBQ.out.trans (hb3.mono HBQ.out.size))
          clear hb3 hr RO HBQ HQ HN p2

          go_wp2_with fail
          refine (EN.out w3).mono ?_
          rintro e w4 ⟨v4, rfl, hs4, hb4⟩
          obtain ⟨n4, a4, k4, c4, rfl⟩ := hs4.form
          have T4 := Lib.hid (TD.out _ _ hs4)
          have G4 := Lib.hid hb4
          clear hs4 hb4 TD EN
          go_wp2_with fail
          refine T4.out.mono ?_
          rintro e w5 ⟨v5, rfl, hv5, hb5⟩
          obtain ⟨n5, a5', k5, c5', rfl⟩ := Va.parts hv5
          have G5 := Lib.hid (G4.out.trans (hb5.mono G4.out.size))
          have R3 := Lib.hid (range3_any n5 a5' k5 c5' w5 hv5)
          clear hv5 hb5 T4 G4
          go_wp2_with fail
          refine R3.out.mono ?_
          rintro e w6 ⟨rfl, hb6⟩
          have G6 := Lib.hid (G5.out.trans (hb6.mono G5.out.size))
          have HD := Lib.hid (DONE.out _ (HB3.out.trans (G6.out.mono HB3.out.size)))
          clear hb6 R3 G5 DONE HB3

          go_wp2_with fail
          go_ret
          exact ⟨rfl, HD.out⟩
        | true =>
          have HN : Hid (rg [x0] = some (want3 [x0])) := Lib.hid (by rw [HRG.out, ← HFB.out]; simp [want3])
          have HC2 : Hid ((1 : Int) ≠ 0) := Lib.hid (by decide)
          clear HFB
          clear HRG
          go_wp2_with fail
          refine RO.out.mono ?_
          rintro e w3 ⟨hb3, ⟨q1, q2, q3, hr, rfl⟩ | ⟨hr, rfl⟩⟩
          · rw [HN.out] at hr
            simp only [want3, Option.some.injEq, Prod.mk.injEq] at hr
            obtain ⟨e1, e2, e3⟩ := hr
            subst e1 e2 e3
            have CO := Lib.hid (fun W => count_any (0 : Int) (numOf x0) (1 : Int) W HR3.out.1 HR3.out.2.1 HR3.out.2.2 HC2.out)
            have HB3 := Lib.hid (HBQ.out.trans (hb3.mono HBQ.out.size))
            have HQ3 := Lib.hid (fun W (hW : Below w3.heap.size w3 W) => HQ.out W (hb3.trans (hW.mono hb3.size)))
            generalize hcnt : cnt (0 : Int) (numOf x0) (1 : Int) = cn at *
            clear hb3 RO HBQ hcnt HQ HN p2
            go_wp2_with fail
            refine (EN.out w3).mono ?_
            rintro e w4 ⟨v4, rfl, hs4, hb4⟩
            obtain ⟨n4, a4, k4, c4, rfl⟩ := hs4.form
            have T4 := Lib.hid (TD.out _ _ hs4)
            have G4 := Lib.hid hb4
            clear hs4 hb4 TD EN
            go_wp2_with fail
            refine T4.out.mono ?_
            rintro e w5 ⟨v5, rfl, hv5, hb5⟩
            obtain ⟨n5, a5', k5, c5', rfl⟩ := Va.parts hv5
            have G5 := Lib.hid (G4.out.trans (hb5.mono G4.out.size))
            have R3 := Lib.hid (range3_any n5 a5' k5 c5' w5 hv5)
            clear hv5 hb5 T4 G4
            go_wp2_with fail
            refine R3.out.mono ?_
            rintro e w6 ⟨rfl, hb6⟩
            have G6 := Lib.hid (G5.out.trans (hb6.mono G5.out.size))
            have HD := Lib.hid (DONE.out _ (HB3.out.trans (G6.out.mono HB3.out.size)))
            clear hb6 R3 G5 DONE HB3

            obtain ⟨p0, p1, p2⟩ := HQ3.out _ G6.out
            clear HQ3 G6
            go_wp2_with (go_at_call 13; refine (CO.out _).mono ?_; rintro e w7 ⟨rfl, rfl⟩)
            go_ret
            exact ⟨rfl, HD.out⟩
          · rw [HN.out] at hr; cases hr
      · skip
        obtain ⟨x0, x1, rfl⟩ : ∃ x0 x1, xs = [x0, x1] := by
          match xs, hxl with
          | [x0, x1], _ => exact ⟨x0, x1, rfl⟩
        have m0 : wr.cell? ⟨g6, o6 + 0, none⟩ = some (.int .i64 (numOf x0)) := H6.out 0 (by simp)
        have m1 : wr.cell? ⟨g6, o6 + 1, none⟩ = some (.int .i64 (numOf x1)) := H6.out 1 (by simp)
        have HXL := Lib.hid hxl
        clear hxs hxl
        have HWB := Lib.hid (Blk.new wr 3 [.int .i64 0, .int .i64 (numOf x0), .int .i64 1])
        have HP : Hid (∀ (j : Nat) (v : Value), ([.int .i64 (numOf x0)] : List Value)[j]? = some v → (wr.alloc (.cells #[.int .i64 0, .int .i64 (numOf x0), .int .i64 1] 3)).cell? ((⟨g6, o6, none⟩ : Addr).add j) = some v) := Lib.hid (by
          intro j v hj
          rw [add_zero_off]
          have hjl : j < 1 := by
            have := (List.getElem?_eq_some_iff.1 hj).1
            simpa using this
          have e := (Below.refl wr.heap.size wr).alloc (Nat.le_refl _) (.cells #[.int .i64 0, .int .i64 (numOf x0), .int .i64 1] 3)
          rw [e.cell (p := ⟨g6, o6 + j, none⟩) h6b]
          match j, hjl with
          | 0, _ => simp at hj; rw [← hj]; exact m0)
        simp only [Nat.add_zero] at m0
        clear m1
        have hci0 : (0 : Int) ≤ (c6 : Int) := by omega
        have hcn0 : 0 ≤ c6 := by omega
        have hci1 : (1 : Int) ≤ (c6 : Int) := by omega
        have hcn1 : 1 ≤ c6 := by omega
        have hci2 : (2 : Int) ≤ (c6 : Int) := by omega
        have hcn2 : 2 ≤ c6 := by omega
        have hmx : max (1 : Int) 0 = 1 := by decide
        have hmw : IntKind.i64.wrap (1 : Int) = 1 := by decide
        go_wp2_with fail
        go_region_held3 (fun _ => True) (trivial) ((first | (refine step_copy_up (by rfl) (.tmp 63) (.tmp 69) 29 29 (by rfl) 3 Tryz.underlying29 HIS.out (some ⟨wr.heap.size, 0, none⟩) (some ⟨g6, o6, none⟩) 2 3 1 c6 (by rfl) (by rfl) wr.heap.size 0 _ 3 HWB.out [.int .i64 (numOf x0)] (by rfl) (fun _ => ⟨rfl, ⟨g6, o6, none⟩, rfl, HP.out⟩) (by simp) (by simp [Value.oneCell']) (wr.alloc (.cells #[.int .i64 0, .int .i64 (numOf x0), .int .i64 1] 3)) ((Up.refl _ _).drewN 1) ?_; intro w2 HK2 HU2) | fail))
        have HB2 : Hid (Below wr.heap.size wr w2) := Lib.hid (((Below.refl wr.heap.size wr).alloc (Nat.le_refl _) _).trans (HU2.out.below (by simp) (fun k hk => by injection hk with hk; omega)))
        clear HU2 HP HWB
        have hsz2 := HB2.out.size
        have R0 : Hid ((w2.alloc (.cells #[] 3)).ownsRow wr.heap.size 3 1 (.slice (some ⟨w2.heap.size, 0, none⟩) 0 0) 0 []) := Lib.hid ⟨rfl, .inr ⟨w2.heap.size, 0, #[], rfl, HB2.out.size, heap_alloc_new w2 _, Nat.le_refl _, by simp [maxLen], rfl, rfl⟩⟩
        have HB2' : Hid (Below wr.heap.size wr (w2.alloc (.cells #[] 3))) := Lib.hid (HB2.out.alloc HB2.out.size _)
        have HS2 : Hid (Sl (w2.alloc (.cells #[] 3)) wr.heap.size (.slice (some ⟨g6, o6, none⟩) 2 c6) [.int .i64 (numOf x0), .int .i64 (numOf x1)]) := Lib.hid (HS6.out.below HB2'.out)
        clear HK2 HB2
        go_upto_region 17 with (first | (at_builtin; (refine wpList_append_sl _ rfl (.tmp 74) (.tmp 75) 29 rfl wr.heap.size 3 iI _ 8 Tryz.underlying29 hiI hzI hsI hbI rfl _ 0 [] rfl R0.out _ _ _ rfl HS2.out (by simp [Value.oneCell']) (by simp [maxLen]) (by simp) HB2'.out.size ?_); intro v3 w3a hr3 hg3; obtain ⟨g3, cap3, hf3⟩ := own_int hr3 (by simp); subst hf3; have R1 := Lib.hid hr3; have HB3a := Lib.hid (HB2'.out.trans (below_grown hg3 HB2'.out.size (own_base R0.out))); clear hr3 hg3 R0 HS2 HB2'; have hsz3 := HB3a.out.size; have HNB := Lib.hid (Blk.new w3a 3 [.int .i64 1]); have HB3b := Lib.hid (HB3a.out.alloc HB3a.out.size (.cells #[.int .i64 1] 3))) | (at_builtin; (refine wpList_append_sl _ rfl (.tmp 76) (.tmp 77) 29 rfl wr.heap.size 3 iI _ 8 Tryz.underlying29 hiI hzI hsI hbI rfl _ 2 [.int .i64 (numOf x0), .int .i64 (numOf x1)] rfl (own_alloc R1.out _) _ _ _ rfl (sl_one HNB.out) (by simp [Value.oneCell']) (by simp [maxLen]) (by simp) HB3b.out.size ?_); intro v4 w4a hr4 hg4; obtain ⟨g4, cap4, hf4⟩ := own_int hr4 (by simp); subst hf4; have R2 := Lib.hid hr4; have hc4 : (3 : Int) ≤ (cap4 : Int) := cap_three (own_cap hr4) (by simp); have HB4a := Lib.hid (HB3b.out.trans (below_grown hg4 HB3b.out.size (own_base R1.out))); clear hr4 hg4 R1 HB3a HB3b HNB))
        have HQ : Hid (∀ W, Below w4a.heap.size w4a W → W.cell? ⟨g4, 0, none⟩ = some (.int .i64 (numOf x0)) ∧ W.cell? ⟨g4, 1, none⟩ = some (.int .i64 (numOf x1)) ∧ W.cell? ⟨g4, 2, none⟩ = some (.int .i64 (1 : Int))) := Lib.hid (fun W hW => ⟨own_cells R2.out W hW 0 (by simp), own_cells R2.out W hW 1 (by simp), own_cells R2.out W hW 2 (by simp)⟩)
        have HBQ := HB4a
        clear R2 HB4a hc4 hsz2 hsz3
        have p2 := (HQ.out w4a (Below.refl _ _)).2.2
        have HR3 : Hid (R32 (numOf x0) ∧ R32 (numOf x1) ∧ R32 (1 : Int)) := Lib.hid ⟨sm_r32 (HXM.out _ (by simp)), sm_r32 (HXM.out _ (by simp)), ⟨by decide, by decide⟩⟩
        have RO : Hid (Calls Tryz.prog 10 #[.slice a5 2 c5] w4a (IrPost [x0, x1] w4a)) := Lib.hid (implRange_any [x0, x1] a5 c5 w4a ((hval.below HBQ.out).more HBQ.out.size) (fun x hx => HXM.out x hx) (by simp) (by simp))
        have EN : Hid (∀ W3, Calls Tryz.prog 12 #[.int .i64 3] W3 (SpPost 3 W3)) := Lib.hid (fun W3 => small_any 3 W3 (by decide) (by decide))
        have TD : Hid (∀ W3 v, Sp W3 W3.heap.size v 3 → Calls Tryz.prog 11 #[v] W3 (VaPost 3 W3)) := Lib.hid (fun W3 v hv => told_any v 3 W3 hv (small_lim 3 (by decide) (by decide)))
        have HRG := Lib.hid (rg_want (xs := [x0, x1]) (by simp) (by simp))
        clear hNu hLO hL hB hval HXM HXL HS6 H6 hwr1
        cases fb with
        | false =>
          have HN : Hid (rg [x0, x1] = none) := Lib.hid (by rw [HRG.out, ← HFB.out]; rfl)
          clear HFB
          clear HRG
          go_wp2_with fail
          refine RO.out.mono ?_
          rintro e w3 ⟨hb3, ⟨q1, q2, q3, hr, rfl⟩ | ⟨hr, rfl⟩⟩
          · rw [HN.out] at hr; cases hr
          have HB3 := Lib.hid (HBQ.out.trans (hb3.mono HBQ.out.size))
          clear hb3 hr RO HBQ HQ HN p2

          go_wp2_with fail
          refine (EN.out w3).mono ?_
          rintro e w4 ⟨v4, rfl, hs4, hb4⟩
          obtain ⟨n4, a4, k4, c4, rfl⟩ := hs4.form
          have T4 := Lib.hid (TD.out _ _ hs4)
          have G4 := Lib.hid hb4
          clear hs4 hb4 TD EN
          go_wp2_with fail
          refine T4.out.mono ?_
          rintro e w5 ⟨v5, rfl, hv5, hb5⟩
          obtain ⟨n5, a5', k5, c5', rfl⟩ := Va.parts hv5
          have G5 := Lib.hid (G4.out.trans (hb5.mono G4.out.size))
          have R3 := Lib.hid (range3_any n5 a5' k5 c5' w5 hv5)
          clear hv5 hb5 T4 G4
          go_wp2_with fail
          refine R3.out.mono ?_
          rintro e w6 ⟨rfl, hb6⟩
          have G6 := Lib.hid (G5.out.trans (hb6.mono G5.out.size))
          have HD := Lib.hid (DONE.out _ (HB3.out.trans (G6.out.mono HB3.out.size)))
          clear hb6 R3 G5 DONE HB3

          go_wp2_with fail
          go_ret
          exact ⟨rfl, HD.out⟩
        | true =>
          have HN : Hid (rg [x0, x1] = some (want3 [x0, x1])) := Lib.hid (by rw [HRG.out, ← HFB.out]; simp [want3])
          have HC2 : Hid ((1 : Int) ≠ 0) := Lib.hid (by decide)
          clear HFB
          clear HRG
          go_wp2_with fail
          refine RO.out.mono ?_
          rintro e w3 ⟨hb3, ⟨q1, q2, q3, hr, rfl⟩ | ⟨hr, rfl⟩⟩
          · rw [HN.out] at hr
            simp only [want3, Option.some.injEq, Prod.mk.injEq] at hr
            obtain ⟨e1, e2, e3⟩ := hr
            subst e1 e2 e3
            have CO := Lib.hid (fun W => count_any (numOf x0) (numOf x1) (1 : Int) W HR3.out.1 HR3.out.2.1 HR3.out.2.2 HC2.out)
            have HB3 := Lib.hid (HBQ.out.trans (hb3.mono HBQ.out.size))
            have HQ3 := Lib.hid (fun W (hW : Below w3.heap.size w3 W) => HQ.out W (hb3.trans (hW.mono hb3.size)))
            generalize hcnt : cnt (numOf x0) (numOf x1) (1 : Int) = cn at *
            clear hb3 RO HBQ hcnt HQ HN p2
            go_wp2_with fail
            refine (EN.out w3).mono ?_
            rintro e w4 ⟨v4, rfl, hs4, hb4⟩
            obtain ⟨n4, a4, k4, c4, rfl⟩ := hs4.form
            have T4 := Lib.hid (TD.out _ _ hs4)
            have G4 := Lib.hid hb4
            clear hs4 hb4 TD EN
            go_wp2_with fail
            refine T4.out.mono ?_
            rintro e w5 ⟨v5, rfl, hv5, hb5⟩
            obtain ⟨n5, a5', k5, c5', rfl⟩ := Va.parts hv5
            have G5 := Lib.hid (G4.out.trans (hb5.mono G4.out.size))
            have R3 := Lib.hid (range3_any n5 a5' k5 c5' w5 hv5)
            clear hv5 hb5 T4 G4
            go_wp2_with fail
            refine R3.out.mono ?_
            rintro e w6 ⟨rfl, hb6⟩
            have G6 := Lib.hid (G5.out.trans (hb6.mono G5.out.size))
            have HD := Lib.hid (DONE.out _ (HB3.out.trans (G6.out.mono HB3.out.size)))
            clear hb6 R3 G5 DONE HB3

            obtain ⟨p0, p1, p2⟩ := HQ3.out _ G6.out
            clear HQ3 G6
            go_wp2_with (go_at_call 13; refine (CO.out _).mono ?_; rintro e w7 ⟨rfl, rfl⟩)
            go_ret
            exact ⟨rfl, HD.out⟩
          · rw [HN.out] at hr; cases hr
      · skip
        obtain ⟨x0, x1, x2, rfl⟩ : ∃ x0 x1 x2, xs = [x0, x1, x2] := by
          match xs, hxl with
          | [x0, x1, x2], _ => exact ⟨x0, x1, x2, rfl⟩
        have m0 : wr.cell? ⟨g6, o6 + 0, none⟩ = some (.int .i64 (numOf x0)) := H6.out 0 (by simp)
        have m1 : wr.cell? ⟨g6, o6 + 1, none⟩ = some (.int .i64 (numOf x1)) := H6.out 1 (by simp)
        have m2 : wr.cell? ⟨g6, o6 + 2, none⟩ = some (.int .i64 (numOf x2)) := H6.out 2 (by simp)
        have HXL := Lib.hid hxl
        clear hxs hxl
        have HWB := Lib.hid (Blk.new wr 3 [.int .i64 0, .int .i64 (numOf x0), .int .i64 1])
        have HP : Hid (∀ (j : Nat) (v : Value), ([.int .i64 (numOf x0), .int .i64 (numOf x1)] : List Value)[j]? = some v → (wr.alloc (.cells #[.int .i64 0, .int .i64 (numOf x0), .int .i64 1] 3)).cell? ((⟨g6, o6, none⟩ : Addr).add j) = some v) := Lib.hid (by
          intro j v hj
          rw [add_zero_off]
          have hjl : j < 2 := by
            have := (List.getElem?_eq_some_iff.1 hj).1
            simpa using this
          have e := (Below.refl wr.heap.size wr).alloc (Nat.le_refl _) (.cells #[.int .i64 0, .int .i64 (numOf x0), .int .i64 1] 3)
          rw [e.cell (p := ⟨g6, o6 + j, none⟩) h6b]
          match j, hjl with
          | 0, _ => simp at hj; rw [← hj]; exact m0
          | 1, _ => simp at hj; rw [← hj]; exact m1)
        simp only [Nat.add_zero] at m0
        clear m1
        clear m2
        have hci0 : (0 : Int) ≤ (c6 : Int) := by omega
        have hcn0 : 0 ≤ c6 := by omega
        have hci1 : (1 : Int) ≤ (c6 : Int) := by omega
        have hcn1 : 1 ≤ c6 := by omega
        have hci2 : (2 : Int) ≤ (c6 : Int) := by omega
        have hcn2 : 2 ≤ c6 := by omega
        have hci3 : (3 : Int) ≤ (c6 : Int) := by omega
        have hcn3 : 3 ≤ c6 := by omega
        have hmx : max (2 : Int) 0 = 2 := by decide
        have hmw : IntKind.i64.wrap (2 : Int) = 2 := by decide
        go_wp2_with fail
        go_region_held3 (fun _ => True) (trivial) ((first | (refine step_copy_up (by rfl) (.tmp 63) (.tmp 69) 29 29 (by rfl) 3 Tryz.underlying29 HIS.out (some ⟨wr.heap.size, 0, none⟩) (some ⟨g6, o6, none⟩) 2 3 2 c6 (by rfl) (by rfl) wr.heap.size 0 _ 3 HWB.out [.int .i64 (numOf x0), .int .i64 (numOf x1)] (by rfl) (fun _ => ⟨rfl, ⟨g6, o6, none⟩, rfl, HP.out⟩) (by simp) (by simp [Value.oneCell']) (wr.alloc (.cells #[.int .i64 0, .int .i64 (numOf x0), .int .i64 1] 3)) ((Up.refl _ _).drewN 1) ?_; intro w2 HK2 HU2) | fail))
        have HB2 : Hid (Below wr.heap.size wr w2) := Lib.hid (((Below.refl wr.heap.size wr).alloc (Nat.le_refl _) _).trans (HU2.out.below (by simp) (fun k hk => by injection hk with hk; omega)))
        clear HU2 HP HWB
        have hsz2 := HB2.out.size
        have R0 : Hid ((w2.alloc (.cells #[] 3)).ownsRow wr.heap.size 3 1 (.slice (some ⟨w2.heap.size, 0, none⟩) 0 0) 0 []) := Lib.hid ⟨rfl, .inr ⟨w2.heap.size, 0, #[], rfl, HB2.out.size, heap_alloc_new w2 _, Nat.le_refl _, by simp [maxLen], rfl, rfl⟩⟩
        have HB2' : Hid (Below wr.heap.size wr (w2.alloc (.cells #[] 3))) := Lib.hid (HB2.out.alloc HB2.out.size _)
        have HS2 : Hid (Sl (w2.alloc (.cells #[] 3)) wr.heap.size (.slice (some ⟨g6, o6, none⟩) 3 c6) [.int .i64 (numOf x0), .int .i64 (numOf x1), .int .i64 (numOf x2)]) := Lib.hid (HS6.out.below HB2'.out)
        clear HK2 HB2
        go_upto_region 17 with (first | (at_builtin; (refine wpList_append_sl _ rfl (.tmp 74) (.tmp 75) 29 rfl wr.heap.size 3 iI _ 8 Tryz.underlying29 hiI hzI hsI hbI rfl _ 0 [] rfl R0.out _ _ _ rfl HS2.out (by simp [Value.oneCell']) (by simp [maxLen]) (by simp) HB2'.out.size ?_); intro v3 w3a hr3 hg3; obtain ⟨g3, cap3, hf3⟩ := own_int hr3 (by simp); subst hf3; have R1 := Lib.hid hr3; have HB3a := Lib.hid (HB2'.out.trans (below_grown hg3 HB2'.out.size (own_base R0.out))); clear hr3 hg3 R0 HS2 HB2'; have hsz3 := HB3a.out.size; have HNB := Lib.hid (Blk.new w3a 3 [.int .i64 1]); have HB3b := Lib.hid (HB3a.out.alloc HB3a.out.size (.cells #[.int .i64 1] 3))) | (at_builtin; (refine wpList_append_sl _ rfl (.tmp 76) (.tmp 77) 29 rfl wr.heap.size 3 iI _ 8 Tryz.underlying29 hiI hzI hsI hbI rfl _ 3 [.int .i64 (numOf x0), .int .i64 (numOf x1), .int .i64 (numOf x2)] rfl (own_alloc R1.out _) _ _ _ rfl (sl_one HNB.out) (by simp [Value.oneCell']) (by simp [maxLen]) (by simp) HB3b.out.size ?_); intro v4 w4a hr4 hg4; obtain ⟨g4, cap4, hf4⟩ := own_int hr4 (by simp); subst hf4; have R2 := Lib.hid hr4; have hc4 : (3 : Int) ≤ (cap4 : Int) := cap_three (own_cap hr4) (by simp); have HB4a := Lib.hid (HB3b.out.trans (below_grown hg4 HB3b.out.size (own_base R1.out))); clear hr4 hg4 R1 HB3a HB3b HNB))
        have HQ : Hid (∀ W, Below w4a.heap.size w4a W → W.cell? ⟨g4, 0, none⟩ = some (.int .i64 (numOf x0)) ∧ W.cell? ⟨g4, 1, none⟩ = some (.int .i64 (numOf x1)) ∧ W.cell? ⟨g4, 2, none⟩ = some (.int .i64 (numOf x2))) := Lib.hid (fun W hW => ⟨own_cells R2.out W hW 0 (by simp), own_cells R2.out W hW 1 (by simp), own_cells R2.out W hW 2 (by simp)⟩)
        have HBQ := HB4a
        clear R2 HB4a hc4 hsz2 hsz3
        have p2 := (HQ.out w4a (Below.refl _ _)).2.2
        have HR3 : Hid (R32 (numOf x0) ∧ R32 (numOf x1) ∧ R32 (numOf x2)) := Lib.hid ⟨sm_r32 (HXM.out _ (by simp)), sm_r32 (HXM.out _ (by simp)), sm_r32 (HXM.out _ (by simp))⟩
        have RO : Hid (Calls Tryz.prog 10 #[.slice a5 3 c5] w4a (IrPost [x0, x1, x2] w4a)) := Lib.hid (implRange_any [x0, x1, x2] a5 c5 w4a ((hval.below HBQ.out).more HBQ.out.size) (fun x hx => HXM.out x hx) (by simp) (by simp))
        have EN : Hid (∀ W3, Calls Tryz.prog 12 #[.int .i64 3] W3 (SpPost 3 W3)) := Lib.hid (fun W3 => small_any 3 W3 (by decide) (by decide))
        have TD : Hid (∀ W3 v, Sp W3 W3.heap.size v 3 → Calls Tryz.prog 11 #[v] W3 (VaPost 3 W3)) := Lib.hid (fun W3 v hv => told_any v 3 W3 hv (small_lim 3 (by decide) (by decide)))
        have HRG := Lib.hid (rg_want (xs := [x0, x1, x2]) (by simp) (by simp))
        clear hNu hLO hL hB hval HXM HXL HS6 H6 hwr1
        cases fb with
        | false =>
          have HN : Hid (rg [x0, x1, x2] = none) := Lib.hid (by rw [HRG.out, ← HFB.out]; rfl)
          clear HFB
          clear HRG
          go_wp2_with fail
          refine RO.out.mono ?_
          rintro e w3 ⟨hb3, ⟨q1, q2, q3, hr, rfl⟩ | ⟨hr, rfl⟩⟩
          · rw [HN.out] at hr; cases hr
          have HB3 := Lib.hid (HBQ.out.trans (hb3.mono HBQ.out.size))
          clear hb3 hr RO HBQ HQ HN p2

          go_wp2_with fail
          refine (EN.out w3).mono ?_
          rintro e w4 ⟨v4, rfl, hs4, hb4⟩
          obtain ⟨n4, a4, k4, c4, rfl⟩ := hs4.form
          have T4 := Lib.hid (TD.out _ _ hs4)
          have G4 := Lib.hid hb4
          clear hs4 hb4 TD EN
          go_wp2_with fail
          refine T4.out.mono ?_
          rintro e w5 ⟨v5, rfl, hv5, hb5⟩
          obtain ⟨n5, a5', k5, c5', rfl⟩ := Va.parts hv5
          have G5 := Lib.hid (G4.out.trans (hb5.mono G4.out.size))
          have R3 := Lib.hid (range3_any n5 a5' k5 c5' w5 hv5)
          clear hv5 hb5 T4 G4
          go_wp2_with fail
          refine R3.out.mono ?_
          rintro e w6 ⟨rfl, hb6⟩
          have G6 := Lib.hid (G5.out.trans (hb6.mono G5.out.size))
          have HD := Lib.hid (DONE.out _ (HB3.out.trans (G6.out.mono HB3.out.size)))
          clear hb6 R3 G5 DONE HB3

          go_wp2_with fail
          go_ret
          exact ⟨rfl, HD.out⟩
        | true =>
          by_cases h2 : (numOf x2) = 0
          · have d2 : ((numOf x2) != 0) = false := by simp [h2]
            have HN : Hid (rg [x0, x1, x2] = none) := Lib.hid (by rw [HRG.out, ← HFB.out]; simp [want3, h2])
            clear HFB h2
            clear HRG
            go_wp2_with fail
            refine RO.out.mono ?_
            rintro e w3 ⟨hb3, ⟨q1, q2, q3, hr, rfl⟩ | ⟨hr, rfl⟩⟩
            · rw [HN.out] at hr; cases hr
            have HB3 := Lib.hid (HBQ.out.trans (hb3.mono HBQ.out.size))
            clear hb3 hr RO HBQ HQ HN p2

            go_wp2_with fail
            refine (EN.out w3).mono ?_
            rintro e w4 ⟨v4, rfl, hs4, hb4⟩
            obtain ⟨n4, a4, k4, c4, rfl⟩ := hs4.form
            have T4 := Lib.hid (TD.out _ _ hs4)
            have G4 := Lib.hid hb4
            clear hs4 hb4 TD EN
            go_wp2_with fail
            refine T4.out.mono ?_
            rintro e w5 ⟨v5, rfl, hv5, hb5⟩
            obtain ⟨n5, a5', k5, c5', rfl⟩ := Va.parts hv5
            have G5 := Lib.hid (G4.out.trans (hb5.mono G4.out.size))
            have R3 := Lib.hid (range3_any n5 a5' k5 c5' w5 hv5)
            clear hv5 hb5 T4 G4
            go_wp2_with fail
            refine R3.out.mono ?_
            rintro e w6 ⟨rfl, hb6⟩
            have G6 := Lib.hid (G5.out.trans (hb6.mono G5.out.size))
            have HD := Lib.hid (DONE.out _ (HB3.out.trans (G6.out.mono HB3.out.size)))
            clear hb6 R3 G5 DONE HB3

            go_wp2_with fail
            go_ret
            exact ⟨rfl, HD.out⟩
          · have d2 : ((numOf x2) != 0) = true := by simp [h2]
            have HN : Hid (rg [x0, x1, x2] = some (want3 [x0, x1, x2])) := Lib.hid (by rw [HRG.out, ← HFB.out]; simp [want3, h2])
            have HC2 := Lib.hid h2
            clear HFB h2
            clear HRG
            go_wp2_with fail
            refine RO.out.mono ?_
            rintro e w3 ⟨hb3, ⟨q1, q2, q3, hr, rfl⟩ | ⟨hr, rfl⟩⟩
            · rw [HN.out] at hr
              simp only [want3, Option.some.injEq, Prod.mk.injEq] at hr
              obtain ⟨e1, e2, e3⟩ := hr
              subst e1 e2 e3
              have CO := Lib.hid (fun W => count_any (numOf x0) (numOf x1) (numOf x2) W HR3.out.1 HR3.out.2.1 HR3.out.2.2 HC2.out)
              have HB3 := Lib.hid (HBQ.out.trans (hb3.mono HBQ.out.size))
              have HQ3 := Lib.hid (fun W (hW : Below w3.heap.size w3 W) => HQ.out W (hb3.trans (hW.mono hb3.size)))
              generalize hcnt : cnt (numOf x0) (numOf x1) (numOf x2) = cn at *
              clear hb3 RO HBQ hcnt HQ HN p2
              go_wp2_with fail
              refine (EN.out w3).mono ?_
              rintro e w4 ⟨v4, rfl, hs4, hb4⟩
              obtain ⟨n4, a4, k4, c4, rfl⟩ := hs4.form
              have T4 := Lib.hid (TD.out _ _ hs4)
              have G4 := Lib.hid hb4
              clear hs4 hb4 TD EN
              go_wp2_with fail
              refine T4.out.mono ?_
              rintro e w5 ⟨v5, rfl, hv5, hb5⟩
              obtain ⟨n5, a5', k5, c5', rfl⟩ := Va.parts hv5
              have G5 := Lib.hid (G4.out.trans (hb5.mono G4.out.size))
              have R3 := Lib.hid (range3_any n5 a5' k5 c5' w5 hv5)
              clear hv5 hb5 T4 G4
              go_wp2_with fail
              refine R3.out.mono ?_
              rintro e w6 ⟨rfl, hb6⟩
              have G6 := Lib.hid (G5.out.trans (hb6.mono G5.out.size))
              have HD := Lib.hid (DONE.out _ (HB3.out.trans (G6.out.mono HB3.out.size)))
              clear hb6 R3 G5 DONE HB3

              obtain ⟨p0, p1, p2⟩ := HQ3.out _ G6.out
              clear HQ3 G6
              go_wp2_with (go_at_call 13; refine (CO.out _).mono ?_; rintro e w7 ⟨rfl, rfl⟩)
              go_ret
              exact ⟨rfl, HD.out⟩
            · rw [HN.out] at hr; cases hr
end Go.Proofs.YtoggalnjjhcmkaaGreat
