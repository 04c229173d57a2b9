/- A list's iterator: Iterate, Next, Done; a list whose count of iterators is told. -/
import Derived.Test.YtggpaejlmfppoaaGreatPopList
import Derived.Defers
namespace Go.Proofs.YtggpaejlmfppoaaGreat
open Go.RowKit Dig
set_option linter.unusedVariables false
set_option linter.unusedSimpArgs false
set_option maxRecDepth 100000

/-- a list of scalars, so many iterators under way -/
def LsN (w : World) (lb g cap : Nat) (xs : List Cel) (it : Int) : Prop :=
  ∃ us rest : List Value, us.length = xs.length ∧ us.length + rest.length = cap ∧ (∀ u ∈ us ++ rest, ∃ T y, u = Value.iface T y) ∧ (∀ (k : Nat) (x : Cel), xs[k]? = some x → ∃ T y, us[k]? = some (Value.iface T y) ∧ SC w w.heap.size (.iface T y) x) ∧
    Blk w g 47 (us ++ rest) ∧ Blk w lb 110 [.slice (some ⟨g, 0, none⟩) xs.length cap, .bool false, .int .u32 it] ∧ lb ≠ g
theorem LsN.of {w : World} {lb g cap : Nat} {xs : List Cel} (h : Lst w lb g cap xs) : LsN w lb g cap xs 0 := h
theorem LsN.below {w w' : World} {lb g cap : Nat} {xs : List Cel} {it : Int} (h : LsN w lb g cap xs it) (hb : Below w.heap.size w w') : LsN w' lb g cap xs it := by
  obtain ⟨us, rest, h1, h2, h3, h4, h5, h6, h7⟩ := h
  exact ⟨us, rest, h1, h2, h3, fun k x hx => by obtain ⟨T, y, h8, h9⟩ := h4 k x hx; exact ⟨T, y, h8, (h9.below hb).more hb.size⟩, h5.below hb h5.lt, h6.below hb h6.lt, h7⟩
theorem LsN.cells {w : World} {lb g cap : Nat} {xs : List Cel} {it : Int} (h : LsN w lb g cap xs it) :
    w.cell? ⟨lb, 0, none⟩ = some (.slice (some ⟨g, 0, none⟩) xs.length cap) ∧ w.cell? ⟨lb, 1, none⟩ = some (.bool false) ∧ w.cell? ⟨lb, 2, none⟩ = some (.int .u32 it) ∧ w.frozen? ⟨lb, 2, none⟩ = false ∧ lb < w.heap.size ∧ g < w.heap.size ∧ xs.length ≤ cap := by
  obtain ⟨us, rest, h1, h2, h3, h4, h5, h6, h7⟩ := h
  exact ⟨h6.cell 0 (by simp), h6.cell 1 (by simp), h6.cell 2 (by simp), h6.free 2, h6.lt, h5.lt, by omega⟩
theorem LsN.get {w : World} {lb g cap : Nat} {xs : List Cel} {k : Nat} {x : Cel} {it : Int} (h : LsN w lb g cap xs it) (hx : xs[k]? = some x) : ∃ T y, w.cell? ⟨g, k, none⟩ = some (.iface T y) ∧ SC w w.heap.size (.iface T y) x := by
  obtain ⟨us, rest, h1, h2, h3, h4, h5, h6, h7⟩ := h
  obtain ⟨T, y, h8, h9⟩ := h4 k x hx
  have hk : k < us.length := (List.getElem?_eq_some_iff.1 h8).1
  refine ⟨T, y, ?_, h9⟩
  rw [h5.cell k (by simp; omega), List.getD_eq_getElem?_getD, List.getElem?_append_left hk, h8]; rfl
theorem LsN.put {w : World} {lb g cap : Nat} {xs : List Cel} {it : Int} (h : LsN w lb g cap xs it) (j : Int) : LsN (w.setCell ⟨lb, 2, none⟩ (.int .u32 j)) lb g cap xs j := by
  obtain ⟨us, rest, h1, h2, h3, h4, h5, h6, h7⟩ := h
  have hu : Up (some lb) w (w.setCell ⟨lb, 2, none⟩ (.int .u32 j)) := (Up.refl _ _).set 2 _
  exact ⟨us, rest, h1, h2, h3, fun k x hx => by
    obtain ⟨T, y, h8, h9⟩ := h4 k x hx
    exact ⟨T, y, h8, (h9.up_far h6 (by decide) (by
        intro u hu m
        simp only [List.mem_cons, List.mem_nil_iff, or_false] at hu
        rcases hu with rfl | rfl | rfl <;> simp [wv]) hu).more hu.size⟩, h5.far (p := ⟨lb, 2, none⟩) (fun e => h7 e.symm) _, h6.set 2 _, h7⟩
theorem iterate_any (lb g cap : Nat) (xs : List Cel) (w : World) (h : Lst w lb g cap xs) : Calls Tryz.prog 143 #[.pointer (some ⟨lb, 0, none⟩)] w fun e w' =>
    e = .returned (.iface 240 (.pointer (some ⟨w.heap.size, 0, none⟩))) ∧ w' = (w.setCell ⟨lb, 2, none⟩ (.int .u32 1)).alloc (.cells [.pointer (some ⟨lb, 0, none⟩), .int .i64 0].toArray 242) := by
  obtain ⟨c0, c1, c2, f2, l0, _, _⟩ := (LsN.of h).cells
  clear h
  go_enter Tryz.func143, Tryz.ntmps143
  go_wp2_with fail
  go_ret
  refine ⟨?_, ?_⟩ <;> first | rfl | simp
set_option maxHeartbeats 1600000 in
theorem next_yes (lb g cap k ib xb : Nat) (xs : List Cel) (x : Cel) (it : Int) (T0 : Value) (w : World) (h : LsN w lb g cap xs it) (hx : xs[k]? = some x) (hi : Blk w ib 242 [.pointer (some ⟨lb, 0, none⟩), .int .i64 (k : Int)]) (hb : Blk w xb 47 [T0]) (hne : ib ≠ xb) (hn : xs.length ≤ 1048576) :
    Calls Tryz.prog 205 #[.pointer (some ⟨ib, 0, none⟩), .pointer (some ⟨xb, 0, none⟩)] w fun e w' => ∃ T y, e = .returned (.bool true) ∧ Below ((w.setCell ⟨xb, 0, none⟩ (.iface T y)).setCell ⟨ib, 1, none⟩ (.int .i64 ((k : Int) + 1))).heap.size ((w.setCell ⟨xb, 0, none⟩ (.iface T y)).setCell ⟨ib, 1, none⟩ (.int .i64 ((k : Int) + 1))) w' ∧ SC w w.heap.size (.iface T y) x := by
  have hk : k < xs.length := (List.getElem?_eq_some_iff.1 hx).1
  have C : Hid (∀ W, Below w.heap.size w W → Calls Tryz.prog 45 #[.pointer (some ⟨lb, 0, none⟩)] W fun e w' => e = .returned (.int .i64 (xs.length : Int)) ∧ w' = W) := Lib.hid (by
    intro W hW
    obtain ⟨c0, _, _, _, l0, _, _⟩ := (h.below hW).cells
    clear h hx hi hb hW
    go_enter Tryz.func45, Tryz.ntmps45
    go_wp2_with fail
    go_ret
    exact ⟨rfl, rfl⟩)
  obtain ⟨c0, _, _, _, l0, lg, hc⟩ := h.cells
  obtain ⟨T, y, c1, hs⟩ := h.get hx
  have HS := Lib.hid hs
  have i0 := hi.cell 0 (by simp)
  have i1 := hi.cell 1 (by simp)
  have fi := hi.free 1
  have li := hi.lt
  have x0 := hb.cell 0 (by simp)
  have fx := hb.free 0
  have lx := hb.lt
  have hi1 : (0 : Int) ≤ (k : Int) := by omega
  have hi2 : (k : Int) < (xs.length : Int) := by omega
  generalize xs.length = n at *
  clear h hx hs hk hi hb
  have hne' : ¬ xb = ib := fun e => hne e.symm
  go_enter Tryz.func205, Tryz.ntmps205
  have HD : Hid (Below w.heap.size w w.drew) := Lib.hid (below_drew1 (Below.refl _ _))
  go_upto_region 1 with fail
  go_region_with (go_at_call 45; (with_reducible refine (C.out _ (by first | exact HD.out | (with_unfolding_all exact HD.out))).mono ?_); rintro e w1 ⟨rfl, rfl⟩)
  all_goals (clear C; go_wp2_with fail)
  all_goals (go_region)
  all_goals (go_wp2_with fail)
  all_goals go_ret
  all_goals exact ⟨T, y, rfl, by first | exact below_drew1 (below_drew1 (Below.refl _ _)) | exact below_drew1 (Below.refl _ _), HS.out⟩
theorem next_no (lb g cap ib : Nat) (xs : List Cel) (it : Int) (p : Value) (w : World) (h : LsN w lb g cap xs it) (hi : Blk w ib 242 [.pointer (some ⟨lb, 0, none⟩), .int .i64 (xs.length : Int)]) :
    Calls Tryz.prog 205 #[.pointer (some ⟨ib, 0, none⟩), p] w fun e w' => e = .returned (.bool false) ∧ Below w.heap.size w w' := by
  have C : Hid (∀ W, Below w.heap.size w W → Calls Tryz.prog 45 #[.pointer (some ⟨lb, 0, none⟩)] W fun e w' => e = .returned (.int .i64 (xs.length : Int)) ∧ w' = W) := Lib.hid (by
    intro W hW
    obtain ⟨c0, _, _, _, l0, _, _⟩ := (h.below hW).cells
    clear h hi hW
    go_enter Tryz.func45, Tryz.ntmps45
    go_wp2_with fail
    go_ret
    exact ⟨rfl, rfl⟩)
  obtain ⟨c0, _, _, _, l0, lg, hc⟩ := h.cells
  have i0 := hi.cell 0 (by simp)
  have i1 := hi.cell 1 (by simp)
  have li := hi.lt
  generalize xs.length = n at *
  clear h hi
  go_enter Tryz.func205, Tryz.ntmps205
  have HD : Hid (Below w.heap.size w w.drew) := Lib.hid (below_drew1 (Below.refl _ _))
  go_upto_region 1 with fail
  go_region_with (go_at_call 45; (with_reducible refine (C.out _ (by first | exact HD.out | (with_unfolding_all exact HD.out))).mono ?_); rintro e w1 ⟨rfl, rfl⟩)
  all_goals (clear C; go_wp2_with fail)
  all_goals go_ret
  all_goals exact ⟨rfl, HD.out⟩
theorem done_deferred (lb g cap ib : Nat) (xs : List Cel) (u : FrameMode) (v : Value) (w : World) (h : LsN w lb g cap xs 1) (hi : Blk w ib 242 [.pointer (some ⟨lb, 0, none⟩), v]) :
    CallsD Tryz.prog 204 #[.pointer (some ⟨ib, 0, none⟩)] u w fun e u' w' => u' = u ∧ (e = .returned (.tuple #[]) ∧ w' = w.setCell ⟨lb, 2, none⟩ (.int .u32 0)) := by
  obtain ⟨c0, c1, c2, f2, l0, lg, hc⟩ := h.cells
  have i0 := hi.cell 0 (by simp)
  have li := hi.lt
  clear h hi
  go_enter_d Tryz.func204, Tryz.ntmps204
  go_wp2_with fail
  go_end0
  exact ⟨rfl, rfl⟩
theorem LsN.up {w w' : World} {lb g cap r : Nat} {xs : List Cel} {it : Int} {e : TypeId} {L : List Value} (h : LsN w lb g cap xs it) (hk : Blk w r e L) (he : 151 ≠ e) (hd : ∀ u ∈ L, ∀ m, u ≠ wv m) (h1 : lb ≠ r) (h2 : g ≠ r) (hu : Up (some r) w w') : LsN w' lb g cap xs it := by
  obtain ⟨us, rest, g1, g2, g3, g4, g5, g6, g7⟩ := h
  exact ⟨us, rest, g1, g2, g3, fun k x hx => by
    obtain ⟨T, y, h8, h9⟩ := g4 k x hx
    exact ⟨T, y, h8, (h9.up_far hk he hd hu).more hu.size⟩, g5.up hu (by intro e; injection e with e; exact h2 e), g6.up hu (by intro e; injection e with e; exact h1 e), g7⟩
/-- the iterator has been made -/
def ItPost (xs : List Cel) (lb g cap H : Nat) (w : World) (e : Ending) (w' : World) : Prop :=
  ∃ ib, e = .returned (.iface 240 (.pointer (some ⟨ib, 0, none⟩))) ∧ LsN w' lb g cap xs 1 ∧ Blk w' ib 242 [.pointer (some ⟨lb, 0, none⟩), .int .i64 0] ∧ w.heap.size ≤ ib ∧ Below H w w'
theorem iterate_post (lb g cap H : Nat) (xs : List Cel) (w : World) (h : Lst w lb g cap xs) (hH : H ≤ lb) : Calls Tryz.prog 143 #[.pointer (some ⟨lb, 0, none⟩)] w (ItPost xs lb g cap H w) := by
  refine (iterate_any lb g cap xs w h).mono ?_
  rintro e w' ⟨rfl, rfl⟩
  have h1 := (LsN.of h).put 1
  have hb : Below H w (w.setCell ⟨lb, 2, none⟩ (.int .u32 1)) := (Below.refl _ _).setCell (p := ⟨lb, 2, none⟩) hH _
  have hl := h.cells.2.2.2.2.1
  refine ⟨_, rfl, h1.below ((Below.refl _ _).alloc (Nat.le_refl _) _), ?_, Nat.le_refl _, hb.alloc (by simp; omega) _⟩
  have := Blk.new (w.setCell ⟨lb, 2, none⟩ (.int .u32 1)) 242 [.pointer (some ⟨lb, 0, none⟩), .int .i64 0]
  simpa using this
/-- the next element has come into the variable -/
def NxPost (xs : List Cel) (lb g cap ib xb k B : Nat) (x : Cel) (w : World) (e : Ending) (w' : World) : Prop :=
  ∃ T y, e = .returned (.bool true) ∧ SC w' w'.heap.size (.iface T y) x ∧ LsN w' lb g cap xs 1 ∧ Blk w' ib 242 [.pointer (some ⟨lb, 0, none⟩), .int .i64 ((k + 1 : Nat) : Int)] ∧ Blk w' xb 47 [.iface T y] ∧ Below B w w'
theorem next_post (lb g cap k ib xb B : Nat) (xs : List Cel) (x : Cel) (T0 : Value) (w : World) (h : LsN w lb g cap xs 1) (hx : xs[k]? = some x) (hi : Blk w ib 242 [.pointer (some ⟨lb, 0, none⟩), .int .i64 (k : Int)]) (hb : Blk w xb 47 [T0]) (hT : ∀ m, T0 ≠ wv m) (hne : ib ≠ xb) (hn : xs.length ≤ 1048576)
    (h1 : lb ≠ ib) (h2 : g ≠ ib) (h3 : lb ≠ xb) (h4 : g ≠ xb) (hB1 : B ≤ ib) (hB2 : B ≤ xb) :
    Calls Tryz.prog 205 #[.pointer (some ⟨ib, 0, none⟩), .pointer (some ⟨xb, 0, none⟩)] w (NxPost xs lb g cap ib xb k B x w) := by
  refine (next_yes lb g cap k ib xb xs x 1 T0 w h hx hi hb hne hn).mono ?_
  rintro e w' ⟨T, y, rfl, hbW, hs⟩
  have u1 : Up (some xb) w (w.setCell ⟨xb, 0, none⟩ (.iface T y)) := (Up.refl _ _).set 0 _
  have u2 : Up (some ib) (w.setCell ⟨xb, 0, none⟩ (.iface T y)) ((w.setCell ⟨xb, 0, none⟩ (.iface T y)).setCell ⟨ib, 1, none⟩ (.int .i64 ((k : Int) + 1))) := (Up.refl _ _).set 1 _
  have hd1 : ∀ u ∈ [T0], ∀ m, u ≠ wv m := by intro u hu m; simp at hu; subst hu; exact hT m
  have hd2 : ∀ u ∈ [Value.pointer (some ⟨lb, 0, none⟩), .int .i64 (k : Int)], ∀ m, u ≠ wv m := by
    intro u hu m
    simp only [List.mem_cons, List.mem_nil_iff, or_false] at hu
    rcases hu with rfl | rfl <;> simp [wv]
  have i1 := hi.up u1 (by intro e; injection e with e; exact hne e)
  have s2 := ((((hs.up_far hb (by decide) hd1 u1).more u1.size).up_far i1 (by decide) hd2 u2).more u2.size)
  have l2 := (h.up hb (by decide) hd1 h3 h4 u1).up i1 (by decide) hd2 h1 h2 u2
  have i2 : Blk ((w.setCell ⟨xb, 0, none⟩ (.iface T y)).setCell ⟨ib, 1, none⟩ (.int .i64 ((k : Int) + 1))) ib 242 [.pointer (some ⟨lb, 0, none⟩), .int .i64 ((k + 1 : Nat) : Int)] := by
    have := i1.set 1 (.int .i64 ((k : Int) + 1))
    simpa using this
  have x2 := (by simpa using hb.set 0 (.iface T y) : Blk (w.setCell ⟨xb, 0, none⟩ (.iface T y)) xb 47 [.iface T y]).up u2 (by intro e; injection e with e; exact hne e.symm)
  have b2 : Below B w ((w.setCell ⟨xb, 0, none⟩ (.iface T y)).setCell ⟨ib, 1, none⟩ (.int .i64 ((k : Int) + 1))) := ((Below.refl _ _).setCell (p := ⟨xb, 0, none⟩) hB2 _).setCell (p := ⟨ib, 1, none⟩) hB1 _
  have hlt : B ≤ ((w.setCell ⟨xb, 0, none⟩ (.iface T y)).setCell ⟨ib, 1, none⟩ (.int .i64 ((k : Int) + 1))).heap.size := Nat.le_trans hB1 (Nat.le_of_lt i2.lt)
  exact ⟨T, y, rfl, (s2.below hbW).more hbW.size, l2.below hbW, i2.below hbW i2.lt, x2.below hbW x2.lt, b2.trans (hbW.mono hlt)⟩
end Go.Proofs.YtggpaejlmfppoaaGreat
