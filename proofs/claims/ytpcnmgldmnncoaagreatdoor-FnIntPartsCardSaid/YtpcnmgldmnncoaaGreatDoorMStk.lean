/- mulWW, greaterThan; the stack of words: getStack, save, restore, free. slices.Grow of words: the room that is there, or a new row. (*stackInner).nat: a row of words on the stack. (*stack).nat: a row of words on the stack. The stack's restore and free, deferred. -/
import Derived.Test.YtpcnmgldmnncoaaGreatDoorVecGen
import Derived.Test.YtpcnmgldmnncoaaGreatDoorMMul
import Derived.Test.YtpcnmgldmnncoaaGreatDoorMNew
import Derived.Lib.AppendZerosOnto
import Derived.Lib.SliceRun
import Derived.Lib.Walk
import Derived.Defers
namespace Go.Proofs.YtpcnmgldmnncoaaGreatDoor
open Go.RowKit Dig
set_option linter.unusedVariables false
set_option linter.unusedSimpArgs false
set_option maxRecDepth 100000

theorem mulWW_any (x y : Nat) (hx : x < 18446744073709551616) (hy : y < 18446744073709551616) (w : World) :
    Calls Tryz.prog 89 #[.int .u64 x, .int .u64 y] w (TwoPost (x * y / 18446744073709551616) (x * y % 18446744073709551616) w) := by
  have C := Lib.hid (bitsMul_any x y hx hy w)
  generalize x * y / 18446744073709551616 = p at *
  generalize x * y % 18446744073709551616 = q at *
  clear hx hy
  go_enter Tryz.func89, Tryz.ntmps89
  go_wp2_with fail
  with_reducible refine C.out.mono ?_
  rintro e w' ⟨rfl, rfl⟩
  go_wp2_with fail
  go_ret2
  exact ⟨rfl, rfl⟩
theorem greater_any (x1 x2 y1 y2 : Nat) (w : World) :
    Calls Tryz.prog 106 #[.int .u64 (x1 : Int), .int .u64 (x2 : Int), .int .u64 (y1 : Int), .int .u64 (y2 : Int)] w fun e w' => e = .returned (.bool (decide (y1 < x1 ∨ y1 = x1 ∧ y2 < x2))) ∧ w = w' := by
  rcases Nat.lt_trichotomy y1 x1 with h | h | h
  · have e : decide (y1 < x1 ∨ y1 = x1 ∧ y2 < x2) = true := decide_eq_true (.inl h)
    rw [e]; clear e
    have h' : (y1 : Int) < (x1 : Int) := by omega
    clear h
    go_enter Tryz.func106, Tryz.ntmps106
    go_wp2_with fail
    go_ret
    exact ⟨rfl, rfl⟩
  · subst h
    by_cases h2 : y2 < x2
    · have e : decide (y1 < y1 ∨ y1 = y1 ∧ y2 < x2) = true := decide_eq_true (.inr ⟨rfl, h2⟩)
      rw [e]; clear e
      have h' : (y2 : Int) < (x2 : Int) := by omega
      clear h2
      go_enter Tryz.func106, Tryz.ntmps106
      go_wp2_with fail
      go_ret
      exact ⟨rfl, rfl⟩
    · have e : decide (y1 < y1 ∨ y1 = y1 ∧ y2 < x2) = false := decide_eq_false (by omega)
      rw [e]; clear e
      have h' : ¬ (y2 : Int) < (x2 : Int) := by omega
      clear h2
      go_enter Tryz.func106, Tryz.ntmps106
      go_wp2_with fail
      go_ret
      exact ⟨rfl, rfl⟩
  · have e : decide (y1 < x1 ∨ y1 = x1 ∧ y2 < x2) = false := decide_eq_false (by omega)
    rw [e]; clear e
    have h' : ¬ (y1 : Int) < (x1 : Int) := by omega
    have h2 : ((x1 : Int) == (y1 : Int)) = false := by rw [beq_eq_false_iff_ne]; omega
    clear h
    go_enter Tryz.func106, Tryz.ntmps106
    go_wp2_with fail
    go_ret
    exact ⟨rfl, rfl⟩
/-- a stack, its blocks not below H: no words yet, or words of which l are in use -/
def Stk (w : World) (H S l : Nat) (og : Option Nat) : Prop :=
  H ≤ S ∧ ((Blk w S 99 [.pointer none] ∧ l = 0 ∧ og = none) ∨
  ∃ I a c, H ≤ I ∧ Blk w S 99 [.pointer (some ⟨I, 0, none⟩)] ∧ Blk w I 118 [.slice a l c] ∧ l ≤ c ∧ c ≤ 9223372036854775807 ∧ ((a = none ∧ c = 0 ∧ og = none) ∨ ∃ g L, a = some ⟨g, 0, none⟩ ∧ og = some g ∧ H ≤ g ∧ Blk w g 79 L ∧ L.length = c))
theorem getStack_any (w : World) : Calls Tryz.prog 62 #[] w fun e w' => e = .returned (.pointer (some ⟨w.heap.size, 0, none⟩)) ∧ w' = w.alloc (.cells #[.pointer none] 99) := by
  go_enter Tryz.func62, Tryz.ntmps62
  go_wp2_with fail
  go_ret
  exact ⟨rfl, rfl⟩
theorem save_any (w : World) (H S l : Nat) (og : Option Nat) (h : Stk w H S l og) : Calls Tryz.prog 77 #[.pointer (some ⟨S, 0, none⟩)] w fun e w' => e = .returned (.int .i64 (l : Int)) ∧ ∃ k, w' = w.drewN k := by
  rcases h with ⟨hHS, ⟨h1, rfl, rfl⟩ | ⟨I, a, c, hHI, h1, h2, hl, hc, _⟩⟩
  · have c1 := h1.cell 0 (by simp)
    have l1 := h1.lt
    clear h1
    go_enter Tryz.func77, Tryz.ntmps77
    go_wp2_with fail
    go_ret
    exact ⟨rfl, 0, rfl⟩
  · have c1 := h1.cell 0 (by simp)
    have l1 := h1.lt
    have c2 := h2.cell 0 (by simp)
    have l2 := h2.lt
    clear h1 h2
    have CI : Hid (∀ W, W.cell? ⟨I, 0, none⟩ = some (.slice a l c) → I < W.heap.size → Calls Tryz.prog 101 #[.pointer (some ⟨I, 0, none⟩)] W fun e w' => e = .returned (.int .i64 (l : Int)) ∧ w' = W) := Lib.hid (by
      intro W c2 l2
      go_enter Tryz.func101, Tryz.ntmps101
      go_wp2_with fail
      go_ret
      exact ⟨rfl, rfl⟩)
    simp only [List.getD_cons_zero] at c1 c2
    go_enter Tryz.func77, Tryz.ntmps77
    go_wp2_with fail
    with_reducible refine (CI.out _ c2 l2).mono ?_
    rintro e w' ⟨rfl, rfl⟩
    go_wp2_with fail
    go_ret
    exact ⟨rfl, 0, rfl⟩
theorem restore_any (w : World) (H S l k : Nat) (og : Option Nat) (h : Stk w H S l og) (hk : k ≤ l) : Calls Tryz.prog 76 #[.pointer (some ⟨S, 0, none⟩), .int .i64 (k : Int)] w fun e w' => e = .returned (.tuple #[]) ∧ Stk w' H S k og ∧ Below H w w' := by
  rcases h with ⟨hHS, ⟨h1, rfl, rfl⟩ | ⟨I, a, c, hHI, h1, h2, hl, hc, ho⟩⟩
  · have c1 := h1.cell 0 (by simp)
    have l1 := h1.lt
    obtain rfl : k = 0 := by omega
    have h9 := Lib.hid h1
    clear h1
    go_enter Tryz.func76, Tryz.ntmps76
    go_wp2_with fail
    refine bodyPost_ret (results_none rfl _ _ _) rfl ?_
    exact ⟨rfl, ⟨hHS, .inl ⟨h9.out, rfl, rfl⟩⟩, Below.refl _ _⟩
  · have c1 := h1.cell 0 (by simp)
    have l1 := h1.lt
    have c2 := h2.cell 0 (by simp)
    have f2 := h2.free 0
    have l2 := h2.lt
    have hne : S ≠ I := by rintro rfl; have := (h1.inj h2).1; exact absurd this (by decide)
    have hlc : (k : Int) ≤ (c : Int) := by omega
    have hk0 : (0 : Int) ≤ (k : Int) := by omega
    have h8 := Lib.hid h1
    have h9 := Lib.hid h2
    have h7 := Lib.hid ho
    clear h1 h2 ho
    simp only [List.getD_cons_zero] at c1 c2
    have CI : Hid (∀ W, W.cell? ⟨I, 0, none⟩ = some (.slice a l c) → W.frozen? ⟨I, 0, none⟩ = false → I < W.heap.size → Calls Tryz.prog 100 #[.pointer (some ⟨I, 0, none⟩), .int .i64 (k : Int)] W fun e w' => e = .returned (.tuple #[]) ∧ ∃ q, w' = (W.setCell ⟨I, 0, none⟩ (.slice a k c)).drewN q) := Lib.hid (by
      intro W c2 f2 l2
      go_enter Tryz.func100, Tryz.ntmps100
      go_wp2_with fail
      go_end0
      exact ⟨rfl, 0, rfl⟩)
    go_enter Tryz.func76, Tryz.ntmps76
    go_wp2_with fail
    with_reducible refine (CI.out _ c2 f2 l2).mono ?_
    rintro e w' ⟨rfl, q, rfl⟩
    go_wp2_with fail
    go_end0
    refine ⟨rfl, ⟨hHS, .inr ⟨I, a, c, hHI, ?_, ?_, by omega, hc, ?_⟩⟩, ?_⟩
    · exact (h8.out.far (p := ⟨I, 0, none⟩) hne _).drewN q
    · exact (h9.out.set 0 (.slice a k c)).drewN q
    · rcases h7.out with ho | ⟨g, L, ha, hg, hHg, hk, hL⟩
      · exact .inl ho
      · exact .inr ⟨g, L, ha, hg, hHg, (hk.far (p := ⟨I, 0, none⟩) (by rintro rfl; have := (hk.inj h9.out).1; exact absurd this (by decide)) _).drewN q, hL⟩
    · exact below_drewN ((Below.refl _ _).setCell hHI _) q
theorem free_any (w : World) (H S l : Nat) (og : Option Nat) (h : Stk w H S l og) : Calls Tryz.prog 63 #[.pointer (some ⟨S, 0, none⟩)] w fun e w' => e = .returned (.tuple #[]) ∧ Below H w w' := by
  rcases h with ⟨hHS, ⟨h1, rfl, rfl⟩ | ⟨I, a, c, hHI, h1, h2, hl, hc, ho⟩⟩
  · have c1 := h1.cell 0 (by simp)
    have l1 := h1.lt
    clear h1
    go_enter Tryz.func63, Tryz.ntmps63
    go_wp2_with fail
    go_end0
    exact ⟨rfl, Below.refl _ _⟩
  · have c1 := h1.cell 0 (by simp)
    have l1 := h1.lt
    have c2 := h2.cell 0 (by simp)
    have f2 := h2.free 0
    have l2 := h2.lt
    clear h1 h2 ho
    simp only [List.getD_cons_zero] at c1 c2
    have CI : Hid (∀ W, W.cell? ⟨I, 0, none⟩ = some (.slice a l c) → W.frozen? ⟨I, 0, none⟩ = false → I < W.heap.size → Calls Tryz.prog 75 #[.pointer (some ⟨I, 0, none⟩)] W fun e w' => e = .returned (.tuple #[]) ∧ ∃ q, w' = (W.setCell ⟨I, 0, none⟩ (.slice a 0 c)).drewN q) := Lib.hid (by
      intro W c2 f2 l2
      go_enter Tryz.func75, Tryz.ntmps75
      go_wp2_with fail
      go_end0
      exact ⟨rfl, 0, rfl⟩)
    go_enter Tryz.func63, Tryz.ntmps63
    go_wp2_with fail
    with_reducible refine (CI.out _ c2 f2 l2).mono ?_
    rintro e w' ⟨rfl, q, rfl⟩
    go_wp2_with fail
    go_end0
    exact ⟨rfl, below_drewN ((Below.refl _ _).setCell hHI _) q⟩
section
variable {w w' : World} {H S l : Nat} {og : Option Nat}
theorem Stk.below (h : Stk w H S l og) (hb : Below w.heap.size w w') : Stk w' H S l og := by
  obtain ⟨hHS, ⟨h1, h2, h3⟩ | ⟨I, a, c, hHI, h1, h2, hl, hc, ho⟩⟩ := h
  · exact ⟨hHS, .inl ⟨h1.below hb h1.lt, h2, h3⟩⟩
  · refine ⟨hHS, .inr ⟨I, a, c, hHI, h1.below hb h1.lt, h2.below hb h2.lt, hl, hc, ?_⟩⟩
    rcases ho with ho | ⟨g, L, ha, hg, hHg, hk, hL⟩
    · exact .inl ho
    · exact .inr ⟨g, L, ha, hg, hHg, hk.below hb hk.lt, hL⟩
theorem Stk.write {b : Nat} {L L' : List Value} (h : Stk w H S l og) (hb : Blk w b 79 L) (hb' : Blk w' b 79 L') (hL : L'.length = L.length) (hu : Up (some b) w w') : Stk w' H S l og := by
  obtain ⟨hHS, ⟨h1, h2, h3⟩ | ⟨I, a, c, hHI, h1, h2, hl, hc, ho⟩⟩ := h
  · exact ⟨hHS, .inl ⟨h1.up hu (by intro e; injection e with e; subst e; exact absurd (h1.inj hb).1 (by decide)), h2, h3⟩⟩
  · refine ⟨hHS, .inr ⟨I, a, c, hHI, h1.up hu (by intro e; injection e with e; subst e; exact absurd (h1.inj hb).1 (by decide)), h2.up hu (by intro e; injection e with e; subst e; exact absurd (h2.inj hb).1 (by decide)), hl, hc, ?_⟩⟩
    rcases ho with ho | ⟨g, L0, ha, hg, hHg, hk, hL0⟩
    · exact .inl ho
    · by_cases e : g = b
      · subst e
        obtain rfl := (hk.inj hb).2
        exact .inr ⟨g, L', ha, hg, hHg, hb', by omega⟩
      · exact .inr ⟨g, L0, ha, hg, hHg, hk.up hu (by intro e'; injection e' with e'; exact e e'), hL0⟩
theorem Stk.drewN (h : Stk w H S l og) (n : Nat) : Stk (w.drewN n) H S l og := h.below (below_drewN (Below.refl _ _) n)
end
end Go.Proofs.YtpcnmgldmnncoaaGreatDoor

namespace Go.Proofs.YtpcnmgldmnncoaaGreatDoor
open Go.RowKit Dig
set_option linter.unusedVariables false
set_option linter.unusedSimpArgs false
set_option maxRecDepth 100000

theorem zero_zs (z : Value) (k : Nat) : Builtin.zeroCells #[z] k = (zs z k).toArray := by
  unfold Builtin.zeroCells zs
  apply Array.ext
  · simp
  · intro i h1 h2
    simp at h1 h2 ⊢
    have : i % 1 = 0 := Nat.mod_one i
    simp [Nat.mod_one]
/-- a row that grew: its cells, then zeros -/
def GrowPost (l c n : Nat) (cs : List Value) (w : World) (e : Ending) (w' : World) : Prop :=
  ∃ G, l + n ≤ G ∧ c ≤ G ∧ G ≤ 9223372036854775807 ∧ e = .returned (.slice (some ⟨w.heap.size, 0, none⟩) l G) ∧ w' = w.drew.alloc (.cells (cs ++ zs (.int .u64 0) (G - c)).toArray 79)
theorem grow_room_nat (a : Option Addr) (l c n : Nat) (w : World) (hlc : l ≤ c) (hc : c ≤ 9223372036854775807) (h : l + n ≤ c) :
    Calls Tryz.prog 103 #[.slice a l c, .int .i64 (n : Int)] w fun e w' => e = .returned (.slice a l c) ∧ w' = w := by
  have h1 : ¬ ((n : Int) < 0) := by omega
  have h2 : wrap64 ((c : Int) - (l : Int)) = (c : Int) - (l : Int) := by unfold wrap64; omega
  have h3 : wrap64 ((n : Int) - ((c : Int) - (l : Int))) = (n : Int) - ((c : Int) - (l : Int)) := by unfold wrap64; omega
  have h4 : ¬ ((n : Int) - ((c : Int) - (l : Int)) > 0) := by omega
  go_enter Tryz.func103, Tryz.ntmps103
  go_wp2_with fail
  go_ret
  exact ⟨rfl, rfl⟩
set_option maxHeartbeats 1600000 in
theorem grow_new_nat (a : Option Addr) (l c n : Nat) (cs : List Value) (w : World) (hlc : l ≤ c) (hroom : c < l + n) (hbig : l + n ≤ 1048576) (hcl : cs.length = c) (hnil : a = none → c = 0) (hcs : ∀ g, a = some ⟨g, 0, none⟩ → Blk w g 79 cs) (hform : a = none ∨ ∃ g, a = some ⟨g, 0, none⟩) :
    Calls Tryz.prog 103 #[.slice a l c, .int .i64 (n : Int)] w (GrowPost l c n cs w) := by
  obtain ⟨i0, hi0, hz0, hs0, hb0⟩ : ∃ i0, Tryz.prog.info? 79 = some i0 ∧ i0.zero = some (.int .u64 0) ∧ i0.size = 1 ∧ i0.bytes = 8 := by
    have h := infoW
    cases hi : Tryz.prog.info? 79 with
    | none => rw [hi] at h; cases h
    | some i => rw [hi] at h; simp only [Option.map_some, Option.some.injEq, Prod.mk.injEq] at h; exact ⟨i, rfl, h.1, h.2.1, h.2.2⟩
  have h1 : ¬ ((n : Int) < 0) := by omega
  have h2 : wrap64 ((c : Int) - (l : Int)) = (c : Int) - (l : Int) := by unfold wrap64; omega
  have h3 : wrap64 ((n : Int) - ((c : Int) - (l : Int))) = (n : Int) - ((c : Int) - (l : Int)) := by unfold wrap64; omega
  have h4 : (n : Int) - ((c : Int) - (l : Int)) > 0 := by omega
  have hck : c + (l + n - c) = l + n := by omega
  have hold : (Builtin.firstCells i0.size c (.slice a c c)).run Tryz.prog w.drew = .ok cs.toArray w.drew := by
    rcases hform with rfl | ⟨g, rfl⟩
    · have h0 := hnil rfl
      subst h0
      have hc0 : cs = [] := List.length_eq_zero_iff.1 hcl
      rw [hc0]
      exact run_firstCells_none w.drew i0.size 0 0 0
    · refine run_firstCells_some w.drew i0.size c ⟨g, 0, none⟩ c c cs (by rw [hs0, hcl]; omega) (fun j v hj => ?_)
      have hk := hcs g rfl
      have hlt : j < cs.length := by
        rcases Nat.lt_or_ge j cs.length with h | h
        · exact h
        · rw [List.getElem?_eq_none h] at hj; cases hj
      have := hk.cell j hlt
      rw [List.getD_eq_getElem?_getD, hj] at this
      have e : (⟨g, 0, none⟩ : Addr).add j = ⟨g, j, none⟩ := by
        cases j <;> simp [Addr.add]
      rw [e]
      exact this
  have hrz : ∀ ty, (Builtin.append_ #[53, 3] ty #[.slice a c c, .int .i64 ((n : Int) - ((c : Int) - (l : Int)))]).run Tryz.prog w =
      .ok (.slice (some ⟨w.heap.size, 0, none⟩) (l + n) (grownCap w (l + n) c 79)) (w.drew.alloc (.cells (cs.toArray ++ Builtin.zeroCells #[.int .u64 0] (l + n - c) ++ Builtin.zeroCells #[.int .u64 0] (grownCap w (l + n) c 79 - (l + n))) 79)) := fun ty => by
    have h := Lib.run_append_grow_zeros w 53 3 ty 79 i0 (.int .u64 0) .i64 .i64 Tryz.underlying53 Tryz.underlying3 hi0 hz0 a c c cs hold (l + n - c) (by omega) (by omega) (by omega) (by omega)
      (by rw [hb0]; omega)
      (by rw [hck, hb0]; exact growslice_fits hroom (by omega))
    rw [hck] at h
    rw [show (n : Int) - ((c : Int) - (l : Int)) = ((l + n - c : Nat) : Int) by omega]
    exact h
  have hGn : l + n ≤ grownCap w (l + n) c 79 := grownCap_ge w _ _ _
  have hG63 : grownCap w (l + n) c 79 ≤ 9223372036854775807 := by
    have := grownCap_le_maxLen w (l + n) c 79 (by unfold maxLen; omega)
    unfold maxLen at this
    omega
  have har : cs.toArray ++ Builtin.zeroCells #[.int .u64 0] (l + n - c) ++ Builtin.zeroCells #[.int .u64 0] (grownCap w (l + n) c 79 - (l + n)) = (cs ++ zs (.int .u64 0) (grownCap w (l + n) c 79 - c)).toArray := by
    rw [zero_zs, zero_zs, List.append_toArray, List.append_toArray, List.append_assoc]
    congr 2
    unfold zs
    rw [List.replicate_append_replicate]
    congr 1
    omega
  rw [har] at hrz
  clear har
  obtain ⟨G, hG⟩ : ∃ G, G = grownCap w (l + n) c 79 := ⟨_, rfl⟩
  rw [← hG] at hrz hGn hG63
  have hln : (l : Int) ≤ ((l + n : Nat) : Int) := by omega
  clear hold hck hG hcs hcl hi0 hz0 hs0 hb0 hbig
  go_enter Tryz.func103, Tryz.ntmps103
  rcases hform with rfl | ⟨g, rfl⟩
  · have h0 := hnil rfl
    subst h0
    obtain rfl : l = 0 := by omega
    go_wp2_with (at_builtin; refine Lib.wpList_append_run _ rfl _ _ _ _ rfl _ _ rfl rfl _ _ (hrz _) ?_)
    go_ret
    exact ⟨G, by omega, by omega, hG63, rfl, rfl⟩
  · go_wp2_with (at_builtin; refine Lib.wpList_append_run _ rfl _ _ _ _ rfl _ _ rfl rfl _ _ (hrz _) ?_)
    go_ret
    exact ⟨G, by omega, by omega, hG63, rfl, rfl⟩
theorem grow_room_row (a : Option Addr) (l c n : Nat) (w : World) (hlc : l ≤ c) (hc : c ≤ 9223372036854775807) (h : l + n ≤ c) :
    Calls Tryz.prog 119 #[.slice a l c, .int .i64 (n : Int)] w fun e w' => e = .returned (.slice a l c) ∧ w' = w := by
  have h1 : ¬ ((n : Int) < 0) := by omega
  have h2 : wrap64 ((c : Int) - (l : Int)) = (c : Int) - (l : Int) := by unfold wrap64; omega
  have h3 : wrap64 ((n : Int) - ((c : Int) - (l : Int))) = (n : Int) - ((c : Int) - (l : Int)) := by unfold wrap64; omega
  have h4 : ¬ ((n : Int) - ((c : Int) - (l : Int)) > 0) := by omega
  go_enter Tryz.func119, Tryz.ntmps119
  go_wp2_with fail
  go_ret
  exact ⟨rfl, rfl⟩
set_option maxHeartbeats 1600000 in
theorem grow_new_row (a : Option Addr) (l c n : Nat) (cs : List Value) (w : World) (hlc : l ≤ c) (hroom : c < l + n) (hbig : l + n ≤ 1048576) (hcl : cs.length = c) (hnil : a = none → c = 0) (hcs : ∀ g, a = some ⟨g, 0, none⟩ → Blk w g 79 cs) (hform : a = none ∨ ∃ g, a = some ⟨g, 0, none⟩) :
    Calls Tryz.prog 119 #[.slice a l c, .int .i64 (n : Int)] w (GrowPost l c n cs w) := by
  obtain ⟨i0, hi0, hz0, hs0, hb0⟩ : ∃ i0, Tryz.prog.info? 79 = some i0 ∧ i0.zero = some (.int .u64 0) ∧ i0.size = 1 ∧ i0.bytes = 8 := by
    have h := infoW
    cases hi : Tryz.prog.info? 79 with
    | none => rw [hi] at h; cases h
    | some i => rw [hi] at h; simp only [Option.map_some, Option.some.injEq, Prod.mk.injEq] at h; exact ⟨i, rfl, h.1, h.2.1, h.2.2⟩
  have h1 : ¬ ((n : Int) < 0) := by omega
  have h2 : wrap64 ((c : Int) - (l : Int)) = (c : Int) - (l : Int) := by unfold wrap64; omega
  have h3 : wrap64 ((n : Int) - ((c : Int) - (l : Int))) = (n : Int) - ((c : Int) - (l : Int)) := by unfold wrap64; omega
  have h4 : (n : Int) - ((c : Int) - (l : Int)) > 0 := by omega
  have hck : c + (l + n - c) = l + n := by omega
  have hold : (Builtin.firstCells i0.size c (.slice a c c)).run Tryz.prog w.drew = .ok cs.toArray w.drew := by
    rcases hform with rfl | ⟨g, rfl⟩
    · have h0 := hnil rfl
      subst h0
      have hc0 : cs = [] := List.length_eq_zero_iff.1 hcl
      rw [hc0]
      exact run_firstCells_none w.drew i0.size 0 0 0
    · refine run_firstCells_some w.drew i0.size c ⟨g, 0, none⟩ c c cs (by rw [hs0, hcl]; omega) (fun j v hj => ?_)
      have hk := hcs g rfl
      have hlt : j < cs.length := by
        rcases Nat.lt_or_ge j cs.length with h | h
        · exact h
        · rw [List.getElem?_eq_none h] at hj; cases hj
      have := hk.cell j hlt
      rw [List.getD_eq_getElem?_getD, hj] at this
      have e : (⟨g, 0, none⟩ : Addr).add j = ⟨g, j, none⟩ := by
        cases j <;> simp [Addr.add]
      rw [e]
      exact this
  have hrz : ∀ ty, (Builtin.append_ #[52, 3] ty #[.slice a c c, .int .i64 ((n : Int) - ((c : Int) - (l : Int)))]).run Tryz.prog w =
      .ok (.slice (some ⟨w.heap.size, 0, none⟩) (l + n) (grownCap w (l + n) c 79)) (w.drew.alloc (.cells (cs.toArray ++ Builtin.zeroCells #[.int .u64 0] (l + n - c) ++ Builtin.zeroCells #[.int .u64 0] (grownCap w (l + n) c 79 - (l + n))) 79)) := fun ty => by
    have h := Lib.run_append_grow_zeros w 52 3 ty 79 i0 (.int .u64 0) .i64 .i64 Tryz.underlying52 Tryz.underlying3 hi0 hz0 a c c cs hold (l + n - c) (by omega) (by omega) (by omega) (by omega)
      (by rw [hb0]; omega)
      (by rw [hck, hb0]; exact growslice_fits hroom (by omega))
    rw [hck] at h
    rw [show (n : Int) - ((c : Int) - (l : Int)) = ((l + n - c : Nat) : Int) by omega]
    exact h
  have hGn : l + n ≤ grownCap w (l + n) c 79 := grownCap_ge w _ _ _
  have hG63 : grownCap w (l + n) c 79 ≤ 9223372036854775807 := by
    have := grownCap_le_maxLen w (l + n) c 79 (by unfold maxLen; omega)
    unfold maxLen at this
    omega
  have har : cs.toArray ++ Builtin.zeroCells #[.int .u64 0] (l + n - c) ++ Builtin.zeroCells #[.int .u64 0] (grownCap w (l + n) c 79 - (l + n)) = (cs ++ zs (.int .u64 0) (grownCap w (l + n) c 79 - c)).toArray := by
    rw [zero_zs, zero_zs, List.append_toArray, List.append_toArray, List.append_assoc]
    congr 2
    unfold zs
    rw [List.replicate_append_replicate]
    congr 1
    omega
  rw [har] at hrz
  clear har
  obtain ⟨G, hG⟩ : ∃ G, G = grownCap w (l + n) c 79 := ⟨_, rfl⟩
  rw [← hG] at hrz hGn hG63
  have hln : (l : Int) ≤ ((l + n : Nat) : Int) := by omega
  clear hold hck hG hcs hcl hi0 hz0 hs0 hb0 hbig
  go_enter Tryz.func119, Tryz.ntmps119
  rcases hform with rfl | ⟨g, rfl⟩
  · have h0 := hnil rfl
    subst h0
    obtain rfl : l = 0 := by omega
    go_wp2_with (at_builtin; refine Lib.wpList_append_run _ rfl _ _ _ _ rfl _ _ rfl rfl _ _ (hrz _) ?_)
    go_ret
    exact ⟨G, by omega, by omega, hG63, rfl, rfl⟩
  · go_wp2_with (at_builtin; refine Lib.wpList_append_run _ rfl _ _ _ _ rfl _ _ rfl rfl _ _ (hrz _) ?_)
    go_ret
    exact ⟨G, by omega, by omega, hG63, rfl, rfl⟩
end Go.Proofs.YtpcnmgldmnncoaaGreatDoor

namespace Go.Proofs.YtpcnmgldmnncoaaGreatDoor
open Go.RowKit Dig
set_option linter.unusedVariables false
set_option linter.unusedSimpArgs false
set_option maxRecDepth 100000

theorem up4 (n : Nat) (h : n < 1200) : bits .andNot .i64 (n : Int) 3 = ((n / 4 * 4 : Nat) : Int) := by
  have h2 : ∀ n : Nat, n < 1200 → bits .andNot .i64 (n : Int) 3 = ((n / 4 * 4 : Nat) : Int) := by decide +kernel
  exact h2 n h
/-- the row g', from place l on; what lies elsewhere is kept -/
def InnPost (I : Nat) (a : Option Addr) (l k : Nat) (w : World) (e : Ending) (w' : World) : Prop :=
  ∃ g' c' L' nr, e = .returned (.slice (some ⟨g', l, none⟩) k k) ∧ k ≤ nr ∧ nr ≤ k + 3 ∧ l + nr ≤ c' ∧ c' ≤ 9223372036854775807 ∧ Blk w' I 118 [.slice (some ⟨g', 0, none⟩) (l + nr) c'] ∧ Blk w' g' 79 L' ∧ L'.length = c' ∧
    (g' < w.heap.size → a = some ⟨g', 0, none⟩ ∧ ∃ L, Blk w g' 79 L ∧ ∃ v, L' = L.set l v) ∧ (∀ H, H ≤ I → H ≤ g' → Below H w w') ∧ (∀ b, b < w.heap.size → b ≠ I → b ≠ g' → w'.heap[b]? = w.heap[b]?)
set_option maxHeartbeats 1600000 in
theorem innNat_room (I g l c k : Nat) (L : List Value) (w : World) (hI : Blk w I 118 [.slice (some ⟨g, 0, none⟩) l c]) (hg : Blk w g 79 L) (hL : L.length = c) (hc : c ≤ 9223372036854775807) (hk0 : 0 < k) (hk : k ≤ 1000) (hl : l ≤ 1048576) (hr : l + (k + 3) / 4 * 4 ≤ c) :
    Calls Tryz.prog 104 #[.pointer (some ⟨I, 0, none⟩), .int .i64 (k : Int)] w (InnPost I (some ⟨g, 0, none⟩) l k w) := by
  obtain ⟨nr, hnr⟩ : ∃ nr, nr = (k + 3) / 4 * 4 := ⟨_, rfl⟩
  have hnr1 : k ≤ nr ∧ nr ≤ k + 3 := by omega
  have hand : bits .andNot .i64 ((k : Int) + 3) 3 = (nr : Int) := by
    have := up4 (k + 3) (by omega)
    rw [← hnr] at this
    rw [← this]; rfl
  rw [← hnr] at hr
  have CG := Lib.hid (fun W => grow_room_row (some ⟨g, 0, none⟩) l c nr W (by omega) hc hr)
  have hne : g ≠ I := by rintro rfl; exact absurd (hI.inj hg).1 (by decide)
  have c1 := hI.cell 0 (by simp)
  have f1 := hI.free 0
  have l1 := hI.lt
  have c2 := hg.cell l (by omega)
  have f2 := hg.free l
  have l2 := hg.lt
  generalize L.getD l undef = cv at *
  simp only [List.getD_cons_zero] at c1
  have i1 : ((l + nr : Nat) : Int) = (l : Int) + (nr : Int) := by omega
  have i2 : ((l + k : Nat) : Int) = (l : Int) + (k : Int) := by omega
  have i3 : (l : Int) + (nr : Int) ≤ (c : Int) := by omega
  have i4 : (0 : Int) ≤ (l : Int) + (nr : Int) := by omega
  have i5 : (l : Int) + (k : Int) ≤ (c : Int) := by omega
  have i6 : (l : Int) ≤ (l : Int) + (k : Int) := by omega
  have i7 : (0 : Int) < (k : Int) := by omega
  have HI := Lib.hid hI
  have HG := Lib.hid hg
  clear hnr hI hg
  go_enter Tryz.func104, Tryz.ntmps104
  go_wp2_with fail
  with_reducible refine (CG.out _).mono ?_
  rintro e w' ⟨rfl, rfl⟩
  go_wp2_with fail
  go_ret
  rw [Nat.add_sub_cancel_left]
  refine ⟨g, c, L.set l (.int .u64 1043915), nr, rfl, hnr1.1, hnr1.2, hr, hc, ?_, ?_, by rw [List.length_set]; exact hL, fun _ => ⟨rfl, L, HG.out, _, rfl⟩, ?_, ?_⟩
  · exact ((HI.out.set 0 (.slice (some ⟨g, 0, none⟩) l c)).set 0 (.slice (some ⟨g, 0, none⟩) (l + nr) c)).far (p := ⟨g, l, none⟩) (fun e => hne e.symm) _
  · exact ((HG.out.far (p := ⟨I, 0, none⟩) hne (.slice (some ⟨g, 0, none⟩) l c)).far (p := ⟨I, 0, none⟩) hne (.slice (some ⟨g, 0, none⟩) (l + nr) c)).set l (.int .u64 1043915)
  · intro H hHI hHg
    exact (((Below.refl _ _).setCell hHI _).setCell hHI _).setCell hHg _
  · intro b hb h1 h2
    rw [Below.heap_setCell _ _ _ b (by simpa using h2), Below.heap_setCell _ _ _ b (by simpa using h1), Below.heap_setCell _ _ _ b (by simpa using h1)]
set_option maxHeartbeats 1600000 in
theorem innNat_new (I l c k : Nat) (a : Option Addr) (cs : List Value) (w : World) (hI : Blk w I 118 [.slice a l c]) (hlc : l ≤ c) (hcl : cs.length = c) (hnil : a = none → c = 0) (hcs : ∀ g, a = some ⟨g, 0, none⟩ → Blk w g 79 cs) (hform : a = none ∨ ∃ g, a = some ⟨g, 0, none⟩) (hk0 : 0 < k) (hk : k ≤ 1000) (hl : l ≤ 1000) (hr : c < l + (k + 3) / 4 * 4) :
    Calls Tryz.prog 104 #[.pointer (some ⟨I, 0, none⟩), .int .i64 (k : Int)] w (InnPost I a l k w) := by
  obtain ⟨nr, hnr⟩ : ∃ nr, nr = (k + 3) / 4 * 4 := ⟨_, rfl⟩
  have hnr1 : k ≤ nr ∧ nr ≤ k + 3 := by omega
  have hand : bits .andNot .i64 ((k : Int) + 3) 3 = (nr : Int) := by
    have := up4 (k + 3) (by omega)
    rw [← hnr] at this
    rw [← this]; rfl
  rw [← hnr] at hr
  have CG := Lib.hid (grow_new_row a l c nr cs w hlc hr (by omega) hcl hnil hcs hform)
  have c1 := hI.cell 0 (by simp)
  have l1 := hI.lt
  simp only [List.getD_cons_zero] at c1
  have HI := Lib.hid hI
  clear hnr hI hnil hcs hform
  go_enter Tryz.func104, Tryz.ntmps104
  go_wp2_with fail
  with_reducible refine CG.out.mono ?_
  rintro e w' ⟨G, hG1, hG2, hG3, rfl, hw⟩
  have hIN : Blk w' I 118 [.slice a l c] := by rw [hw]; exact (HI.out.drewN 1).alloc _
  have hGN : Blk w' w.heap.size 79 (cs ++ zs (.int .u64 0) (G - c)) := by rw [hw]; exact Blk.new (w.drewN 1) 79 _
  have hfr : ∀ b, b < w.heap.size → w'.heap[b]? = w.heap[b]? := fun b hb => by rw [hw]; exact Below.heap_alloc (w.drewN 1) _ b hb
  have hbl : ∀ H, H ≤ w.heap.size → Below H w w' := fun H hH => by rw [hw]; exact (below_drewN (Below.refl _ _) 1).alloc hH _
  have hLl : (cs ++ zs (.int .u64 0) (G - c)).length = G := by rw [List.length_append, zs_length]; omega
  generalize cs ++ zs (.int .u64 0) (G - c) = L at *
  have hne : w.heap.size ≠ I := by omega
  have HF := Lib.hid hfr
  have HBL := Lib.hid hbl
  clear hw hfr hbl CG
  have f1 := hIN.free 0
  have c3 := hIN.cell 0 (by simp)
  have l3 := hIN.lt
  have c2 := hGN.cell l (by omega)
  have f2 := hGN.free l
  have l2 := hGN.lt
  simp only [List.getD_cons_zero] at c3
  generalize L.getD l undef = cv at *
  have i3 : (l : Int) + (nr : Int) ≤ (G : Int) := by omega
  have i4 : (0 : Int) ≤ (l : Int) + (nr : Int) := by omega
  have i5 : (l : Int) + (k : Int) ≤ (G : Int) := by omega
  have i6 : (l : Int) ≤ (l : Int) + (k : Int) := by omega
  have i7 : (0 : Int) < (k : Int) := by omega
  have HIN := Lib.hid hIN
  have HGN := Lib.hid hGN
  clear hIN hGN
  obtain ⟨g, hg⟩ : ∃ g, g = w.heap.size := ⟨_, rfl⟩
  rw [← hg] at hne c2 f2 l2 HGN ⊢
  have HGG := Lib.hid hg
  clear hg
  go_wp2_with fail
  go_ret
  rw [Nat.add_sub_cancel_left]
  refine ⟨g, G, L.set l (.int .u64 1043915), nr, rfl, hnr1.1, hnr1.2, by omega, hG3, ?_, ?_, by rw [List.length_set]; exact hLl, fun h => ?_, ?_, ?_⟩
  · exact ((HIN.out.set 0 (.slice (some ⟨g, 0, none⟩) l G)).set 0 (.slice (some ⟨g, 0, none⟩) (l + nr) G)).far (p := ⟨g, l, none⟩) (fun e => hne e.symm) _
  · exact ((HGN.out.far (p := ⟨I, 0, none⟩) hne (.slice (some ⟨g, 0, none⟩) l G)).far (p := ⟨I, 0, none⟩) hne (.slice (some ⟨g, 0, none⟩) (l + nr) G)).set l (.int .u64 1043915)
  · have := HGG.out; omega
  · intro H hHI hHg
    exact (((HBL.out H (by rw [← HGG.out]; exact hHg)).setCell hHI _).setCell hHI _).setCell hHg _
  · intro b hb h1 h2
    rw [Below.heap_setCell _ _ _ b (by simpa using h2), Below.heap_setCell _ _ _ b (by simpa using h1), Below.heap_setCell _ _ _ b (by simpa using h1)]
    exact HF.out b hb
end Go.Proofs.YtpcnmgldmnncoaaGreatDoor

namespace Go.Proofs.YtpcnmgldmnncoaaGreatDoor
open Go.RowKit Dig
set_option linter.unusedVariables false
set_option linter.unusedSimpArgs false
set_option maxRecDepth 100000

/-- a row of one's own of k words; other rows of words are kept, and so are the l words below in the stack's own row -/
def SnPost (H S l k : Nat) (og : Option Nat) (w : World) (e : Ending) (w' : World) : Prop :=
  ∃ g o cz L l' og', e = .returned (.slice (some ⟨g, o, none⟩) k cz) ∧ k ≤ cz ∧ H ≤ g ∧ Blk w' g 79 L ∧ o + k ≤ L.length ∧ Stk w' H S l' og' ∧ l ≤ l' ∧ l' ≤ l + k + 3 ∧ Below H w w' ∧
    (∀ b L', Blk w b 79 L' → og ≠ some b → b ≠ g ∧ Blk w' b 79 L') ∧
    (∀ b i v, og = some b → i < l → w.cell? ⟨b, i, none⟩ = some v → w'.cell? ⟨b, i, none⟩ = some v ∧ (b = g → o = l)) ∧ (og' = none ∨ og' = some g ∧ o + k ≤ l')
/-- what the inner contract says, said of the stack -/
theorem sn_of {w W w' : World} {H S I l k c : Nat} {a : Option Addr} {og : Option Nat} {e : Ending} (h : InnPost I a l k W e w') (hb : Below H w W) (hHS : H ≤ S) (hHI : H ≤ I) (hHw : H ≤ w.heap.size) (hS : Blk W S 99 [.pointer (some ⟨I, 0, none⟩)]) (hI : Blk W I 118 [.slice a l c])
    (ho : (a = none ∧ og = none) ∨ ∃ g L, a = some ⟨g, 0, none⟩ ∧ og = some g ∧ H ≤ g ∧ Blk W g 79 L) (hk : ∀ b L', Blk w b 79 L' → Blk W b 79 L') (hk0 : 0 < k) (hsz : w.heap.size ≤ W.heap.size) (hcell : ∀ b i v, og = some b → w.cell? ⟨b, i, none⟩ = some v → W.cell? ⟨b, i, none⟩ = some v) : SnPost H S l k og w e w' := by
  obtain ⟨g, c', L', nr, rfl, h1, h2, h3, h4, h5, h6, h7, h8, h9, h10⟩ := h
  have hHg : H ≤ g := by
    rcases Nat.lt_or_ge g W.heap.size with hlt | hge
    · obtain ⟨ha, L, hL, _⟩ := h8 hlt
      rcases ho with ⟨ho, _⟩ | ⟨g2, L2, ho, _, hg2, _⟩
      · rw [ho] at ha; cases ha
      · rw [ho] at ha; injection ha with ha; injection ha with ha; omega
    · omega
  have hne : ∀ b L, Blk W b 79 L → b ≠ I := fun b L hb e => by subst e; exact absurd (hb.inj hI).1 (by decide)
  refine ⟨g, l, k, L', l + nr, some g, rfl, Nat.le_refl _, hHg, h6, by omega, ⟨hHS, .inr ⟨I, some ⟨g, 0, none⟩, c', hHI, ?_, h5, by omega, h4, .inr ⟨g, L', rfl, rfl, hHg, h6, h7⟩⟩⟩, by omega, by omega, hb.trans (h9 H hHI hHg), ?_, ?_, .inr ⟨rfl, by omega⟩⟩
  · have hSI : S ≠ I := by rintro rfl; exact absurd (hS.inj hI).1 (by decide)
    have hSg : S ≠ g := by
      rintro rfl
      obtain ⟨_, L, hL, _⟩ := h8 hS.lt
      exact absurd (hS.inj hL).1 (by decide)
    exact (h10 S hS.lt hSI hSg).trans hS
  · intro b Lb hLb hog
    have hbW := hk b Lb hLb
    have hbg : b ≠ g := by
      rintro rfl
      obtain ⟨ha, _⟩ := h8 hbW.lt
      rcases ho with ⟨ho, _⟩ | ⟨g2, L2, ho, ho2, hg2, _⟩
      · rw [ho] at ha; cases ha
      · rw [ho] at ha; injection ha with ha; injection ha with ha; exact hog (by rw [ho2, ha])
    exact ⟨hbg, (h10 b hbW.lt (hne b Lb hbW) hbg).trans hbW⟩
  · intro b i v hog hi hv
    have hv := hcell b i v hog hv
    refine ⟨?_, fun _ => rfl⟩
    have hbl := lt_of_cell hv
    by_cases e : b = g
    · subst e
      obtain ⟨ha, L, hL, v', e'⟩ := h8 hbl
      have hlt : i < L.length := by
        rcases Nat.lt_or_ge i L.length with hlt | hge
        · exact hlt
        · exfalso
          have hL' := hL
          unfold Blk at hL'
          simp [World.cell?, hL', hge] at hv
      have h6' := h6.cell i (by rw [e', List.length_set]; exact hlt)
      rw [h6', e', ← hv, hL.cell i hlt, List.getD_eq_getElem?_getD, List.getElem?_set_ne (by omega), ← List.getD_eq_getElem?_getD]
    · have hbI : b ≠ I := by
        rintro rfl
        rcases ho with ⟨_, ho⟩ | ⟨g2, L2, _, ho2, hg2, hL2⟩
        · rw [ho] at hog; cases hog
        · rw [ho2] at hog; injection hog with hog; subst hog; exact absurd (hL2.inj hI).1 (by decide)
      rw [World.cell?_of_block (a := ⟨b, i, none⟩) (h10 b hbl hbI e)]
      exact hv
set_option maxHeartbeats 1600000 in
theorem stkNat_any (w : World) (H S l k : Nat) (og : Option Nat) (h : Stk w H S l og) (hk0 : 0 < k) (hk : k ≤ 1000) (hl : l ≤ 1000) (hHw : H ≤ w.heap.size) :
    Calls Tryz.prog 79 #[.pointer (some ⟨S, 0, none⟩), .int .i64 (k : Int)] w (SnPost H S l k og w) := by
  rcases h with ⟨hHS, ⟨h1, rfl, rfl⟩ | ⟨I, a, c, hHI, h1, h2, hlc, hc, ho⟩⟩
  · have c1 := h1.cell 0 (by simp)
    have f1 := h1.free 0
    have l1 := h1.lt
    simp only [List.getD_cons_zero] at c1
    by_cases hk4 : k ≤ 4
    · have hk4' : (k : Int) ≤ 4 := by omega
      have hkp : (0 : Int) < (k : Int) := by omega
      have CG := Lib.hid (grow_new_nat none 0 0 k [] w (by omega) (by omega) (by omega) rfl (fun _ => rfl) (fun g h => by cases h) (.inl rfl))
      have H1 := Lib.hid h1
      clear h1 f1
      go_enter Tryz.func79, Tryz.ntmps79
      go_wp2_with fail
      with_reducible refine CG.out.mono ?_
      rintro e w' ⟨G, hG1, _, hG3, rfl, hw⟩
      have hGN : Blk w' w.heap.size 79 ([] ++ zs (.int .u64 0) (G - 0)) := by rw [hw]; exact Blk.new (w.drewN 1) 79 _
      have hbl : Below w.heap.size w w' := by rw [hw]; exact (below_drewN (Below.refl _ _) 1).alloc (Nat.le_refl _) _
      have hLl : ([] ++ zs (.int .u64 0) (G - 0)).length = G := by rw [List.length_append, zs_length]; simp
      generalize [] ++ zs (.int .u64 0) (G - 0) = L at *
      have c2 := hGN.cell 0 (by omega)
      have f2 := hGN.free 0
      have l2 := hGN.lt
      generalize L.getD 0 undef = cv at *
      have HGN := Lib.hid hGN
      have HBL := Lib.hid hbl
      have i1 : (k : Int) ≤ (G : Int) := by omega
      clear hw hGN hbl CG c1 l1
      obtain ⟨g, hg⟩ : ∃ g, g = w.heap.size := ⟨_, rfl⟩
      rw [← hg] at c2 f2 l2 HGN ⊢
      have HGG := Lib.hid hg
      clear hg
      go_wp2_with fail
      go_ret
      have hHg : H ≤ g := by rw [HGG.out]; exact hHw
      have hb2 : Below w.heap.size w (w'.setCell ⟨g, 0, none⟩ (.int .u64 11259375)) := HBL.out.setCell (by rw [HGG.out]; exact Nat.le_refl _) _
      have hstk : Stk w H S 0 none := ⟨hHS, .inl ⟨H1.out, rfl, rfl⟩⟩
      refine ⟨g, 0, G, L.set 0 (.int .u64 11259375), 0, none, rfl, by omega, hHg, HGN.out.set 0 _, by rw [List.length_set]; omega, hstk.below hb2, Nat.le_refl _, by omega, hb2.mono hHw, ?_, ?_, .inl rfl⟩
      · intro b L' hL' _
        refine ⟨by have := hL'.lt; rw [HGG.out]; omega, hL'.below hb2 hL'.lt⟩
      · intro b i v h; cases h
    · have hk4' : ¬ (k : Int) ≤ 4 := by omega
      obtain ⟨V, hV⟩ : ∃ V, V = w.setCell ⟨S, 0, none⟩ (.pointer (some ⟨w.heap.size, 0, none⟩)) := ⟨_, rfl⟩
      obtain ⟨W, hW⟩ : ∃ W, W = V.alloc (.cells #[.slice none 0 0] 118) := ⟨_, rfl⟩
      have hsV : V.heap.size = w.heap.size := by rw [hV]; simp [World.setCell]
      have hSne : S ≠ w.heap.size := by omega
      have hIW : Blk W w.heap.size 118 [.slice none 0 0] := by rw [hW, ← hsV]; exact Blk.new V 118 [.slice none 0 0]
      have hSW : Blk W S 99 [.pointer (some ⟨w.heap.size, 0, none⟩)] := by rw [hW, hV]; exact (h1.set 0 _).alloc _
      have hbW : Below H w W := by
        rw [hW]
        refine Below.alloc ?_ (by rw [hsV]; exact hHw) _
        rw [hV]
        exact (Below.refl _ _).setCell hHS _
      have hkeep : ∀ b L', Blk w b 79 L' → Blk W b 79 L' := fun b L' hL' => by
        rw [hW, hV]; exact (hL'.far (p := ⟨S, 0, none⟩) (by rintro rfl; exact absurd (h1.inj hL').1 (by decide)) _).alloc _
      have hszW : w.heap.size ≤ W.heap.size := by rw [hW]; simp [hsV]
      have CI := Lib.hid (innNat_new w.heap.size 0 0 k none [] W hIW (by omega) rfl (fun _ => rfl) (fun g h => by cases h) (.inl rfl) hk0 hk (by omega) (by omega))
      have FIN : Hid (∀ e w', InnPost w.heap.size none 0 k W e w' → SnPost H S 0 k none w e w') := Lib.hid (fun e w' h => sn_of h hbW hHS hHw hHw hSW hIW (.inl ⟨rfl, rfl⟩) hkeep hk0 hszW (fun b i v h => by cases h))
      clear h1 hIW hSW hbW hkeep hszW
      rw [hW, hV] at CI FIN
      clear hW hV hsV
      go_enter Tryz.func79, Tryz.ntmps79
      go_wp2_with fail
      with_reducible refine CI.out.mono ?_
      intro e w' hin
      have hfin := FIN.out e w' hin
      obtain ⟨g', c', L', nr, rfl, _⟩ := hin
      have HF := Lib.hid hfin
      clear hfin FIN CI
      go_wp2_with fail
      go_ret
      exact HF.out
  · have c1 := h1.cell 0 (by simp)
    have f1 := h1.free 0
    have l1 := h1.lt
    simp only [List.getD_cons_zero] at c1
    have CI : Hid (Calls Tryz.prog 104 #[.pointer (some ⟨I, 0, none⟩), .int .i64 (k : Int)] w (InnPost I a l k w)) := Lib.hid (by
      rcases ho with ⟨rfl, rfl, rfl⟩ | ⟨g, L, rfl, rfl, hHg, hL, hLc⟩
      · exact innNat_new I l 0 k none [] w h2 hlc rfl (fun _ => rfl) (fun g h => by cases h) (.inl rfl) hk0 hk hl (by omega)
      · by_cases hr : l + (k + 3) / 4 * 4 ≤ c
        · exact innNat_room I g l c k L w h2 hL hLc hc hk0 hk (by omega) hr
        · exact innNat_new I l c k (some ⟨g, 0, none⟩) L w h2 hlc hLc (fun h => by cases h) (fun g' h => by injection h with h; injection h with h; subst h; exact hL) (.inr ⟨g, rfl⟩) hk0 hk hl (by omega))
    have FIN : Hid (∀ e w', InnPost I a l k w e w' → SnPost H S l k og w e w') := Lib.hid (fun e w' h => sn_of h (Below.refl _ _) hHS hHI hHw h1 h2 (by
      rcases ho with ⟨rfl, _, rfl⟩ | ⟨g, L, rfl, rfl, hHg, hL, hLc⟩
      · exact .inl ⟨rfl, rfl⟩
      · exact .inr ⟨g, L, rfl, rfl, hHg, hL⟩) (fun b L' h => h) hk0 (Nat.le_refl _) (fun b i v _ h => h))
    clear h1 h2 ho
    go_enter Tryz.func79, Tryz.ntmps79
    go_wp2_with fail
    with_reducible refine CI.out.mono ?_
    intro e w' hin
    have hfin := FIN.out e w' hin
    obtain ⟨g', c', L', nr, rfl, _⟩ := hin
    have HF := Lib.hid hfin
    clear hfin FIN CI
    go_wp2_with fail
    go_ret
    exact HF.out
end Go.Proofs.YtpcnmgldmnncoaaGreatDoor

namespace Go.Proofs.YtpcnmgldmnncoaaGreatDoor
open Go.RowKit Dig
set_option linter.unusedVariables false
set_option linter.unusedSimpArgs false
set_option maxRecDepth 100000

theorem restore_deferred (u : FrameMode) (w : World) (H S l k : Nat) (og : Option Nat) (h : Stk w H S l og) (hk : k ≤ l) : CallsD Tryz.prog 76 #[.pointer (some ⟨S, 0, none⟩), .int .i64 (k : Int)] u w fun e u' w' => u' = u ∧ (e = .returned (.tuple #[]) ∧ Stk w' H S k og ∧ Below H w w' ∧ (∀ b L', Blk w b 79 L' → Blk w' b 79 L')) := by
  rcases h with ⟨hHS, ⟨h1, rfl, rfl⟩ | ⟨I, a, c, hHI, h1, h2, hl, hc, ho⟩⟩
  · have c1 := h1.cell 0 (by simp)
    have l1 := h1.lt
    obtain rfl : k = 0 := by omega
    have h9 := Lib.hid h1
    clear h1
    go_enter_d Tryz.func76, Tryz.ntmps76
    go_wp2_with fail
    refine bodyPost_ret (results_none rfl _ _ _) rfl ?_
    exact ⟨rfl, ⟨hHS, .inl ⟨h9.out, rfl, rfl⟩⟩, Below.refl _ _, fun b L' h => h⟩
  · have c1 := h1.cell 0 (by simp)
    have l1 := h1.lt
    have c2 := h2.cell 0 (by simp)
    have f2 := h2.free 0
    have l2 := h2.lt
    have hne : S ≠ I := by rintro rfl; have := (h1.inj h2).1; exact absurd this (by decide)
    have hlc : (k : Int) ≤ (c : Int) := by omega
    have hk0 : (0 : Int) ≤ (k : Int) := by omega
    have h8 := Lib.hid h1
    have h9 := Lib.hid h2
    have h7 := Lib.hid ho
    have h9 := Lib.hid h2
    clear h1 h2 ho
    simp only [List.getD_cons_zero] at c1 c2
    have CI : Hid (∀ W, W.cell? ⟨I, 0, none⟩ = some (.slice a l c) → W.frozen? ⟨I, 0, none⟩ = false → I < W.heap.size → Calls Tryz.prog 100 #[.pointer (some ⟨I, 0, none⟩), .int .i64 (k : Int)] W fun e w' => e = .returned (.tuple #[]) ∧ ∃ q, w' = (W.setCell ⟨I, 0, none⟩ (.slice a k c)).drewN q) := Lib.hid (by
      intro W c2 f2 l2
      go_enter Tryz.func100, Tryz.ntmps100
      go_wp2_with fail
      go_end0
      exact ⟨rfl, 0, rfl⟩)
    go_enter_d Tryz.func76, Tryz.ntmps76
    go_wp2_with fail
    with_reducible refine (CI.out _ c2 f2 l2).mono ?_
    rintro e w' ⟨rfl, q, rfl⟩
    go_wp2_with fail
    go_end0
    refine ⟨rfl, ⟨hHS, .inr ⟨I, a, c, hHI, ?_, ?_, by omega, hc, ?_⟩⟩, ?_, ?_⟩
    · exact (h8.out.far (p := ⟨I, 0, none⟩) hne _).drewN q
    · exact (h9.out.set 0 (.slice a k c)).drewN q
    · rcases h7.out with ho | ⟨g, L, ha, hg, hHg, hk, hL⟩
      · exact .inl ho
      · exact .inr ⟨g, L, ha, hg, hHg, (hk.far (p := ⟨I, 0, none⟩) (by rintro rfl; have := (hk.inj h9.out).1; exact absurd this (by decide)) _).drewN q, hL⟩
    · exact below_drewN ((Below.refl _ _).setCell hHI _) q
    · exact fun b L' hL' => (hL'.far (p := ⟨I, 0, none⟩) (by rintro rfl; have := (hL'.inj h9.out).1; exact absurd this (by decide)) _).drewN q
theorem free_deferred (u : FrameMode) (w : World) (H S l : Nat) (og : Option Nat) (h : Stk w H S l og) : CallsD Tryz.prog 63 #[.pointer (some ⟨S, 0, none⟩)] u w fun e u' w' => u' = u ∧ (e = .returned (.tuple #[]) ∧ Below H w w' ∧ (∀ b L', Blk w b 79 L' → Blk w' b 79 L')) := by
  rcases h with ⟨hHS, ⟨h1, rfl, rfl⟩ | ⟨I, a, c, hHI, h1, h2, hl, hc, ho⟩⟩
  · have c1 := h1.cell 0 (by simp)
    have l1 := h1.lt
    clear h1
    go_enter_d Tryz.func63, Tryz.ntmps63
    go_wp2_with fail
    go_end0
    exact ⟨rfl, Below.refl _ _, fun b L' h => h⟩
  · have c1 := h1.cell 0 (by simp)
    have l1 := h1.lt
    have c2 := h2.cell 0 (by simp)
    have f2 := h2.free 0
    have l2 := h2.lt
    have h9 := Lib.hid h2
    clear h1 h2 ho
    simp only [List.getD_cons_zero] at c1 c2
    have CI : Hid (∀ W, W.cell? ⟨I, 0, none⟩ = some (.slice a l c) → W.frozen? ⟨I, 0, none⟩ = false → I < W.heap.size → Calls Tryz.prog 75 #[.pointer (some ⟨I, 0, none⟩)] W fun e w' => e = .returned (.tuple #[]) ∧ ∃ q, w' = (W.setCell ⟨I, 0, none⟩ (.slice a 0 c)).drewN q) := Lib.hid (by
      intro W c2 f2 l2
      go_enter Tryz.func75, Tryz.ntmps75
      go_wp2_with fail
      go_end0
      exact ⟨rfl, 0, rfl⟩)
    go_enter_d Tryz.func63, Tryz.ntmps63
    go_wp2_with fail
    with_reducible refine (CI.out _ c2 f2 l2).mono ?_
    rintro e w' ⟨rfl, q, rfl⟩
    go_wp2_with fail
    go_end0
    exact ⟨rfl, below_drewN ((Below.refl _ _).setCell hHI _) q, fun b L' hL' => (hL'.far (p := ⟨I, 0, none⟩) (by rintro rfl; have := (hL'.inj h9.out).1; exact absurd this (by decide)) _).drewN q⟩
end Go.Proofs.YtpcnmgldmnncoaaGreatDoor
