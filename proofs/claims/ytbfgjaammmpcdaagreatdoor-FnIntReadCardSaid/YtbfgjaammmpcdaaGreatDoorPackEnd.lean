/- A row of words of one's own, the highest first: turned round, its zeros struck, shifted down. -/
import Derived.Test.YtbfgjaammmpcdaaGreatDoorRsh
import Derived.Test.YtbfgjaammmpcdaaGreatDoorRevW
import Derived.Test.YtbfgjaammmpcdaaGreatDoorNumTxt
import Derived.Test.YtbfgjaammmpcdaaGreatDoorScanBase
namespace Go.Proofs.YtbfgjaammmpcdaaGreatDoor
open Go.RowKit Dig
set_option linter.unusedVariables false
set_option linter.unusedSimpArgs false
set_option maxRecDepth 100000

theorem revW_own (base n : Nat) (v : Value) (ws : List Nat) (w : World) (hn : ws.length = n) (hl : n ≤ 1048576) (h : w.ownsRow base 102 1 v n (ws.map wv)) :
    Calls Tryz.prog 134 #[v] w fun e w' => e = .returned (.tuple #[]) ∧ w'.ownsRow base 102 1 v n (ws.reverse.map wv) ∧ w.grownBy w' v.ownBlock := by
  by_cases h0 : n = 0
  · subst h0
    obtain rfl : ws = [] := List.eq_nil_of_length_eq_zero hn
    obtain ⟨a, c, rfl⟩ := own_shape h
    refine (revW_empty a c w).mono ?_
    rintro e w' ⟨rfl, rfl⟩
    exact ⟨rfl, by simpa using h, World.grownBy.refl _ _⟩
  · obtain ⟨g, c, rfl, hb, hc⟩ := own_form h h0
    refine (revW_any g n c base ws w hn hl hb h).mono ?_
    rintro e w' ⟨rfl, h1, h2⟩
    exact ⟨rfl, h1, h2⟩
/-- words of one's own: none, or those of a number -/
def OwnR (W : World) (base : Nat) (a : Option Addr) (r c m : Nat) : Prop :=
  (r = 0 ∧ m = 0) ∨ ∃ g L xs, a = some ⟨g, 0, none⟩ ∧ base ≤ g ∧ 0 < r ∧ r ≤ c ∧ r ≤ 1048576 ∧ L.length = c ∧ Blk W g 102 L ∧ xs.length = r ∧ L.take r = xs.map wv ∧ Rep 18446744073709551616 xs m
theorem OwnR.nt {W : World} {base r c m : Nat} {a : Option Addr} (h : OwnR W base a r c m) : Nt W W.heap.size (.slice a r c) m := by
  rcases h with ⟨rfl, rfl⟩ | ⟨g, L, ws, rfl, h2, h3, h4, h5, h6, h7, h8, h9, h10⟩
  · exact ⟨[], ⟨by simp, rfl, by simp [Nrm]⟩, Sl.empty _ _ _ _⟩
  · refine ⟨ws, h10, some ⟨g, 0, none⟩, c, by simp [h8], by simpa [h8] using h4, fun _ => ⟨g, 0, rfl, h7.lt, fun i hi => ?_⟩⟩
    have hi' : i < r := by simpa [h8] using hi
    rw [Nat.zero_add, h7.cell i (by omega), ← h9, List.getD_eq_getElem?_getD, List.getD_eq_getElem?_getD, List.getElem?_take, if_pos hi']
theorem norm_own (base n m : Nat) (v : Value) (ws : List Nat) (w : World) (hn : ws.length = n) (hl : n ≤ 1048576) (hws : ∀ x ∈ ws, x < 18446744073709551616) (hm : hval 18446744073709551616 ws = m) (h : w.ownsRow base 102 1 v n (ws.reverse.map wv)) :
    Calls Tryz.prog 69 #[v] w fun e w' => ∃ a r c, e = .returned (.slice a r c) ∧ w = w' ∧ OwnR w base a r c m := by
  obtain ⟨a, c, rfl⟩ := own_shape h
  have hrl : ws.reverse.length = n := by simpa using hn
  have hlt : ∀ x ∈ ws.reverse, x < 18446744073709551616 := fun x hx => hws x (by simpa using hx)
  have hsl : Sl w w.heap.size (.slice a ws.reverse.length c) (ws.reverse.map wv) := by
    rw [hrl]
    have h2 := h
    rw [show n = (ws.reverse.map wv).length by simp [hn]] at h2
    have := Sl.of_own (by rw [List.length_map, hrl] at h2 ⊢; exact h2)
    exact this
  have C := norm_any ws.reverse a c w.heap.size w hsl hlt (by omega)
  rw [hrl] at C
  refine C.mono ?_
  rintro e w' ⟨rfl, rfl⟩
  refine ⟨a, _, c, rfl, rfl, ?_⟩
  have hrep := strip_rep 18446744073709551616 ws.reverse hlt
  have hmv : nval 18446744073709551616 ws.reverse = m := by rw [← hm, hval_eq]
  rw [hmv] at hrep
  by_cases h0 : strip ws.reverse = []
  · left
    exact ⟨by rw [h0]; rfl, (hrep.pos_iff (by omega)).1 h0⟩
  · right
    have hsl2 := strip_length ws.reverse
    rw [hrl] at hsl2
    have hpos := List.length_pos_iff.2 h0
    obtain ⟨g, c', hv, hb, hc⟩ := own_form h (by omega)
    obtain ⟨rfl, rfl⟩ : a = some ⟨g, 0, none⟩ ∧ c = c' := by simpa using hv
    rcases h.2 with ⟨h1, _⟩ | ⟨g', cap, cur, hv', hb', hh, hnc, hcm, hcs, ht⟩
    · cases h1
    · obtain ⟨rfl, rfl⟩ : g = g' ∧ c = cap := by
        injection hv' with q1 q2 q3
        injection q1 with q1
        injection q1 with q1
        exact ⟨q1, q3⟩
      refine ⟨g, cur.toList, strip ws.reverse, rfl, hb, hpos, by omega, by omega, by rw [Array.length_toList, hcs, Nat.mul_one], by unfold Blk; rw [hh], rfl, ?_, hrep⟩
      rw [Nat.mul_one] at ht
      have e2 : cur.toList.take (strip ws.reverse).length = (cur.toList.take n).take (strip ws.reverse).length := by rw [List.take_take, Nat.min_eq_left hsl2]
      rw [e2, ht, ← List.map_take, ← strip_take]
theorem rsh_ownR (base r c s m : Nat) (a : Option Addr) (w : World) (hs0 : 0 < s) (hs : s < 64) (h : OwnR w base a r c m) :
    Calls Tryz.prog 135 #[.slice a r c, .slice a r c, .int .u64 (s : Int)] w fun e w' => ∃ v, e = .returned v ∧ Nt w' w'.heap.size v (m / 2 ^ s) ∧ Below base w w' := by
  rcases h with ⟨rfl, rfl⟩ | ⟨g, L, ws, rfl, h2, h3, h4, h5, h6, h7, h8, h9, h10⟩
  · refine (rsh_empty a c s w hs0 hs).mono ?_
    rintro e w' ⟨rfl, rfl⟩
    exact ⟨_, rfl, by rw [Nat.zero_div]; exact ⟨[], ⟨by simp, rfl, by simp [Nrm]⟩, Sl.empty _ _ _ _⟩, Below.refl _ _⟩
  · exact rsh_own g r c s m base ws L w h8 h3 h4 h5 h6 hs0 hs h10 h7 h2 h9
theorem up_grown {w W w4 : World} {rb : Nat} {r : Option Nat} (hu : Up (some rb) w W) (hg : W.grownBy w4 r) (hr : ∀ k, r = some k → w.heap.size ≤ k) : Up (some rb) w w4 :=
  ⟨hg.os.trans hu.os, hg.tape.trans hu.tape, hg.output.trans hu.output, Nat.le_trans hu.size hg.size, fun q hq hne => (hg.block q (Nat.lt_of_lt_of_le hq hu.size) (by intro e; have := hr q e.symm; omega)).trans (hu.block q hq hne)⟩
theorem up_below {w W w4 : World} {rb : Nat} (hu : Up (some rb) w W) (hg : Below w.heap.size W w4) : Up (some rb) w w4 :=
  ⟨hg.os.trans hu.os, hg.tape.trans hu.tape, hg.output.trans hu.output, Nat.le_trans hu.size hg.size, fun q hq hne => (hg.block q hq).trans (hu.block q hq hne)⟩
theorem Rdr.grown {w w' : World} {rb k : Nat} {s : ByteArray} {r : Option Nat} (h : Rdr w rb s k) (hg : w.grownBy w' r) (hr : r ≠ some rb) : Rdr w' rb s k := by
  obtain ⟨p, h⟩ := h
  exact ⟨p, h.up hg (fun e => hr e.symm)⟩
theorem Rdr.under {w w' : World} {rb k B : Nat} {s : ByteArray} (h : Rdr w rb s k) (hb : Below B w w') (hr : rb < B) : Rdr w' rb s k := by
  obtain ⟨p, h⟩ := h
  exact ⟨p, h.below hb hr⟩
/-- what the words so far are, and the digits that are in none -/
def PkRel (b n rb : Nat) (s : ByteArray) (ds : List Nat) (E : Value) (w : World) (z fo count err prev iv ch di i dp : Value) (W : World) : Prop :=
  ∃ (k : Nat) (ws : List Nat), fo = .bool false ∧ iv = .bool false ∧ dp = .int .i64 (-1) ∧ k ≤ ds.length ∧ count = .int .i64 (k : Int) ∧ prev = .int .i32 (if k = 0 then 46 else 48) ∧ di = .int .u64 ((dOf b n k ds : Nat) : Int) ∧ i = .int .i64 ((k % n : Nat) : Int) ∧ W.ownsRow w.heap.size 102 1 z ws.length (ws.map wv) ∧ ws.length ≤ k ∧ (∀ x ∈ ws, x < 18446744073709551616) ∧ hval 18446744073709551616 ws = zOf b n k ds ∧ Ahead W rb s E k ch err ∧ Up (some rb) w W
/-- a word more -/
theorem pk_more {ws : List Nat} {x : Nat} (h : ∀ y ∈ ws, y < 18446744073709551616) (hx : x < 18446744073709551616) : ∀ y ∈ ws ++ [x], y < 18446744073709551616 := by
  intro y hy
  rcases List.mem_append.1 hy with hy | hy
  · exact h y hy
  · simp at hy; rw [hy]; exact hx
end Go.Proofs.YtbfgjaammmpcdaaGreatDoor
