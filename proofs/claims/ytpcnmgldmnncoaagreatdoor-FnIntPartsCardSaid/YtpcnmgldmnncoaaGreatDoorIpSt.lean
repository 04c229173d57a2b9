/- What stands in the law's variables: FnIntParts. -/
import Derived.Test.YtpcnmgldmnncoaaGreatDoorMTold
import Derived.Test.YtpcnmgldmnncoaaGreatDoorMWhole
import Derived.Deep.RegionHeld3
namespace Go.Proofs.YtpcnmgldmnncoaaGreatDoor
open Go.RowKit Dig
set_option linter.unusedVariables false
set_option linter.unusedSimpArgs false
set_option maxRecDepth 100000

/-- it returns whether .. -/
def BoolPost (r : Bool) (w : World) (e : Ending) (w' : World) : Prop := e = .returned (.bool r) ∧ Below w.heap.size w w'
set_option maxHeartbeats 800000 in
theorem spZero_any (i : Int) (v : Value) (w : World) (hv : Sp w w.heap.size v i) : Calls Tryz.prog 5 #[v] w (BoolPost (decide (i = 0)) w) := by
  obtain ⟨mag, rfl, xs, hr, a, c, rfl, _, _⟩ := hv
  have hz := hr.nil_iff
  have HB0 : Hid (Below w.heap.size w (w.alloc (.cells #[.bool (decide (i < 0)), .slice a (xs.map bv).length c] 24))) := Lib.hid ((Below.refl _ _).alloc (Nat.le_refl _) _)
  rw [List.length_map] at HB0 ⊢
  by_cases h0 : i = 0
  · have hx : xs = [] := hz.2 (by omega)
    have H : Hid (decide (i = 0) = true) := Lib.hid (by simpa using h0)
    subst hx
    simp only [List.length_nil] at HB0 ⊢
    clear hz hr
    generalize decide (i < 0) = ng at *
    go_enter Tryz.func5, Tryz.ntmps5
    go_wp2_with fail
    go_ret
    exact ⟨by rw [H.out]; rfl, HB0.out⟩
  · have hx : xs.length ≠ 0 := by intro h; exact h0 (by have := hz.1 (List.eq_nil_of_length_eq_zero h); omega)
    have H : Hid (decide (i = 0) = false) := Lib.hid (by simpa using h0)
    clear hz hr h0
    generalize decide (i < 0) = ng at *
    generalize xs.length = N at *
    go_enter Tryz.func5, Tryz.ntmps5
    go_wp2_with fail
    go_ret
    exact ⟨by rw [H.out] <;> simp [hx], HB0.out⟩
theorem By.set {w : World} {b : Nat} {e : TypeId} {L : List Value} (hk : Blk w b e L) (hd : ∀ u ∈ L, ∀ x, u ≠ bv x) (i : Nat) (y : Value) (hy : ∀ x, y ≠ bv x) : (∀ B v m, By w B v m → By (w.setCell ⟨b, i, none⟩ y) B v m) ∧ Blk (w.setCell ⟨b, i, none⟩ y) b e (L.set i y) ∧ (∀ u ∈ L.set i y, ∀ x, u ≠ bv x) ∧ (w.setCell ⟨b, i, none⟩ y).heap.size = w.heap.size ∧ (∀ b' e' L', b' ≠ b → Blk w b' e' L' → Blk (w.setCell ⟨b, i, none⟩ y) b' e' L') := by
  refine ⟨fun B v m h => h.far hk hd i y, hk.set i y, fun u hu => ?_, by simp, fun b' e' L' hne h => h.far (p := ⟨b, i, none⟩) hne y⟩
  rcases List.mem_or_eq_of_mem_set hu with h | h
  · exact hd u h
  · rw [h]; exact hy
theorem store2 {w : World} {b : Nat} {e : TypeId} {p0 p1 : Value} (hk : Blk w b e [p0, p1]) (h0 : ∀ x, p0 ≠ bv x) (h1 : ∀ x, p1 ≠ bv x) (v0 v1 : Value) (k0 : ∀ x, v0 ≠ bv x) (k1 : ∀ x, v1 ≠ bv x) :
    (∀ B v m, By w B v m → By ((w.setCell ⟨b, 0, none⟩ v0).setCell ⟨b, 1, none⟩ v1) B v m) ∧ Blk ((w.setCell ⟨b, 0, none⟩ v0).setCell ⟨b, 1, none⟩ v1) b e [v0, v1] ∧ ((w.setCell ⟨b, 0, none⟩ v0).setCell ⟨b, 1, none⟩ v1).heap.size = w.heap.size ∧ (∀ b' e' L', b' ≠ b → Blk w b' e' L' → Blk ((w.setCell ⟨b, 0, none⟩ v0).setCell ⟨b, 1, none⟩ v1) b' e' L') := by
  obtain ⟨a1, a2, a3, a4, a5⟩ := By.set hk (by simp; exact ⟨h0, h1⟩) 0 v0 k0
  obtain ⟨c1, c2, c3, c4, c5⟩ := By.set a2 a3 1 v1 k1
  exact ⟨fun B v m h => c1 B v m (a1 B v m h), c2, c4.trans a4, fun b' e' L' hne h => c5 b' e' L' hne (a5 b' e' L' hne h)⟩
theorem store6 {w : World} {b : Nat} {e : TypeId} {p0 p1 p2 p3 p4 p5 : Value} (hk : Blk w b e [p0, p1, p2, p3, p4, p5]) (hp : ∀ u ∈ [p0, p1, p2, p3, p4, p5], ∀ x, u ≠ bv x) (v0 v1 v2 v3 v4 v5 : Value) (k0 : ∀ x, v0 ≠ bv x) (k1 : ∀ x, v1 ≠ bv x) (k2 : ∀ x, v2 ≠ bv x) (k3 : ∀ x, v3 ≠ bv x) (k4 : ∀ x, v4 ≠ bv x) (k5 : ∀ x, v5 ≠ bv x) (W' : World) (hW' : W' = (((((w.setCell ⟨b, 0, none⟩ v0).setCell ⟨b, 1, none⟩ v1).setCell ⟨b, 2, none⟩ v2).setCell ⟨b, 3, none⟩ v3).setCell ⟨b, 4, none⟩ v4).setCell ⟨b, 5, none⟩ v5) :
    (∀ B v m, By w B v m → By W' B v m) ∧ Blk W' b e [v0, v1, v2, v3, v4, v5] ∧ W'.heap.size = w.heap.size ∧ (∀ b' e' L', b' ≠ b → Blk w b' e' L' → Blk W' b' e' L') := by
  subst hW'
  obtain ⟨a1, a2, a3, a4, a5⟩ := By.set hk hp 0 v0 k0
  obtain ⟨c1, c2, c3, c4, c5⟩ := By.set a2 a3 1 v1 k1
  obtain ⟨d1, d2, d3, d4, d5⟩ := By.set c2 c3 2 v2 k2
  obtain ⟨f1, f2, f3, f4, f5⟩ := By.set d2 d3 3 v3 k3
  obtain ⟨g1, g2, g3, g4, g5⟩ := By.set f2 f3 4 v4 k4
  obtain ⟨l1, l2, l3, l4, l5⟩ := By.set g2 g3 5 v5 k5
  exact ⟨fun B v m h => l1 B v m (g1 B v m (f1 B v m (d1 B v m (c1 B v m (a1 B v m h))))), l2, by rw [l4, g4, f4, d4, c4, a4], fun b' e' L' hne h => l5 b' e' L' hne (g5 b' e' L' hne (f5 b' e' L' hne (d5 b' e' L' hne (c5 b' e' L' hne (a5 b' e' L' hne h)))))⟩
/-- the law's variables x, p, y, q at the blocks bx, bp, by, bq -/
structure LwSt (w : World) (bx bp by_ bq : Nat) (i j : Int) (n1 n2 n3 n4 : Bool) (a1 a2 a3 a4 : Option Addr) (k1 c1 k2 c2 k3 c3 k4 c4 : Nat) (W : World) : Prop where
  bX : Blk W bx 24 [.bool n1, .slice a1 k1 c1]
  bP : Blk W bp 28 [.int .i64 2, .bool n2, .slice a2 k2 c2, .int .u64 0, .string ByteArray.empty, .slice none 0 0]
  bY : Blk W by_ 24 [.bool n3, .slice a3 k3 c3]
  bQ : Blk W bq 28 [.int .i64 2, .bool n4, .slice a4 k4 c4, .int .u64 0, .string ByteArray.empty, .slice none 0 0]
  sX : Sp W W.heap.size (.agg #[.bool n1, .slice a1 k1 c1]) i
  vP : Va W W.heap.size (.agg #[.int .i64 2, .bool n2, .slice a2 k2 c2, .int .u64 0, .string ByteArray.empty, .slice none 0 0]) i
  sY : Sp W W.heap.size (.agg #[.bool n3, .slice a3 k3 c3]) j
  vQ : Va W W.heap.size (.agg #[.int .i64 2, .bool n4, .slice a4 k4 c4, .int .u64 0, .string ByteArray.empty, .slice none 0 0]) j
  b : Below w.heap.size w W
  lt : w.heap.size ≤ bx ∧ bx < bp ∧ bp < by_ ∧ by_ < bq ∧ bq < W.heap.size
section
variable {w : World} {bx bp by_ bq : Nat} {i j : Int} {n1 n2 n3 n4 : Bool} {a1 a2 a3 a4 : Option Addr} {k1 c1 k2 c2 k3 c3 k4 c4 : Nat} {W W' : World}
theorem LwSt.below (h : LwSt w bx bp by_ bq i j n1 n2 n3 n4 a1 a2 a3 a4 k1 c1 k2 c2 k3 c3 k4 c4 W) (hb : Below W.heap.size W W') : LwSt w bx bp by_ bq i j n1 n2 n3 n4 a1 a2 a3 a4 k1 c1 k2 c2 k3 c3 k4 c4 W' := by
  have hs := hb.size
  obtain ⟨l1, l2, l3, l4, l5⟩ := h.lt
  exact ⟨h.bX.below hb h.bX.lt, h.bP.below hb h.bP.lt, h.bY.below hb h.bY.lt, h.bQ.below hb h.bQ.lt, (h.sX.below hb).more hs, (h.vP.below hb).more hs, (h.sY.below hb).more hs, (h.vQ.below hb).more hs, h.b.trans (hb.mono h.b.size), l1, l2, l3, l4, by omega⟩
/-- y and q are overwritten -/
theorem LwSt.store (h : LwSt w bx bp by_ bq i j n1 n2 n3 n4 a1 a2 a3 a4 k1 c1 k2 c2 k3 c3 k4 c4 W) (j' : Int) (n5 n6 : Bool) (a5 a6 : Option Addr) (k5 c5 k6 c6 : Nat) (hs : Sp W W.heap.size (.agg #[.bool n5, .slice a5 k5 c5]) j') (hv : Va W W.heap.size (.agg #[.int .i64 2, .bool n6, .slice a6 k6 c6, .int .u64 0, .string ByteArray.empty, .slice none 0 0]) j')
    (hW' : W' = (((((((W.setCell ⟨by_, 0, none⟩ (.bool n5)).setCell ⟨by_, 1, none⟩ (.slice a5 k5 c5)).setCell ⟨bq, 0, none⟩ (.int .i64 2)).setCell ⟨bq, 1, none⟩ (.bool n6)).setCell ⟨bq, 2, none⟩ (.slice a6 k6 c6)).setCell ⟨bq, 3, none⟩ (.int .u64 0)).setCell ⟨bq, 4, none⟩ (.string ByteArray.empty)).setCell ⟨bq, 5, none⟩ (.slice none 0 0)) :
    LwSt w bx bp by_ bq i j' n1 n2 n5 n6 a1 a2 a5 a6 k1 c1 k2 c2 k5 c5 k6 c6 W' := by
  obtain ⟨l1, l2, l3, l4, l5⟩ := h.lt
  obtain ⟨p1, p2, p3, p4⟩ := store2 h.bY (by simp [bv]) (by simp [bv]) (.bool n5) (.slice a5 k5 c5) (by simp [bv]) (by simp [bv])
  have hq := p4 bq _ _ (by omega) h.bQ
  obtain ⟨q1, q2, q3, q4⟩ := store6 hq (by simp [bv]) (.int .i64 2) (.bool n6) (.slice a6 k6 c6) (.int .u64 0) (.string ByteArray.empty) (.slice none 0 0) (by simp [bv]) (by simp [bv]) (by simp [bv]) (by simp [bv]) (by simp [bv]) (by simp [bv]) W' hW'
  have hsz : W'.heap.size = W.heap.size := q3.trans p3
  have SP : ∀ v m, Sp W W.heap.size v m → Sp W' W'.heap.size v m := fun v m hv => by
    obtain ⟨mag, e, hm⟩ := hv
    rw [hsz]
    exact ⟨mag, e, q1 _ _ _ (p1 _ _ _ hm)⟩
  have VA : ∀ v m, Va W W.heap.size v m → Va W' W'.heap.size v m := fun v m hv => by
    obtain ⟨mag, e, hm⟩ := hv
    rw [hsz]
    exact ⟨mag, e, q1 _ _ _ (p1 _ _ _ hm)⟩
  refine ⟨q4 _ _ _ (by omega) (p4 _ _ _ (by omega) h.bX), q4 _ _ _ (by omega) (p4 _ _ _ (by omega) h.bP), q4 _ _ _ (by omega) p2, q2, SP _ _ h.sX, VA _ _ h.vP, SP _ _ hs, VA _ _ hv, ?_, l1, l2, l3, l4, by omega⟩
  rw [hW']
  exact ((((((((h.b.setCell (p := ⟨by_, 0, none⟩) (by show w.heap.size ≤ by_; omega) _).setCell (p := ⟨by_, 1, none⟩) (by show w.heap.size ≤ by_; omega) _).setCell (p := ⟨bq, 0, none⟩) (by show w.heap.size ≤ bq; omega) _).setCell (p := ⟨bq, 1, none⟩) (by show w.heap.size ≤ bq; omega) _).setCell (p := ⟨bq, 2, none⟩) (by show w.heap.size ≤ bq; omega) _).setCell (p := ⟨bq, 3, none⟩) (by show w.heap.size ≤ bq; omega) _).setCell (p := ⟨bq, 4, none⟩) (by show w.heap.size ≤ bq; omega) _).setCell (p := ⟨bq, 5, none⟩) (by show w.heap.size ≤ bq; omega) _)
end
/-- a Val is reckoned; the variable for the last one lies perhaps already -/
def Rx (W8 : World) (ov : Option (Value × Int)) (oa : Option Nat) (W : World) : Prop := Below W8.heap.size W8 W ∧ (∀ v m, ov = some (v, m) → Va W W.heap.size v m) ∧ (∀ b, oa = some b → W8.heap.size ≤ b ∧ Blk W b 28 zeroVal)
/-- the variable is laid -/
def RxFin (W8 : World) (i : Int) (ba : Nat) (n : Bool) (a : Option Addr) (k c : Nat) (W : World) : Prop := Below W8.heap.size W8 W ∧ W8.heap.size ≤ ba ∧ Blk W ba 28 [.int .i64 2, .bool n, .slice a k c, .int .u64 0, .string ByteArray.empty, .slice none 0 0] ∧ Va W W.heap.size (.agg #[.int .i64 2, .bool n, .slice a k c, .int .u64 0, .string ByteArray.empty, .slice none 0 0]) i
section
variable {W8 W W' : World} {ov : Option (Value × Int)} {oa : Option Nat}
theorem Rx.start (W8 : World) : Rx W8 none none W8 := ⟨Below.refl _ _, by simp, by simp⟩
theorem Rx.b (s : Rx W8 ov oa W) : Below W8.heap.size W8 W := s.1
theorem Rx.drew (s : Rx W8 ov oa W) : Rx W8 ov oa W.drew := ⟨s.1.drew, s.2.1, s.2.2⟩
theorem Rx.alloc (s : Rx W8 ov none W) : Rx W8 ov (some W.heap.size) (W.alloc (.cells #[.int .i64 0, .bool false, .slice none 0 0, .int .u64 0, .string ⟨#[]⟩, .slice none 0 0] 28)) := by
  have hb : Below W.heap.size W (W.alloc (.cells #[.int .i64 0, .bool false, .slice none 0 0, .int .u64 0, .string ⟨#[]⟩, .slice none 0 0] 28)) := (Below.refl _ _).alloc (Nat.le_refl _) _
  refine ⟨s.1.trans (hb.mono s.1.size), fun v m h => ((s.2.1 v m h).below hb).more hb.size, fun b h => ?_⟩
  injection h with h
  subst h
  exact ⟨s.1.size, Blk.new W _ zeroVal⟩
theorem Rx.call {v' : Value} {m' : Int} (s : Rx W8 ov oa W) (hb : Below W.heap.size W W') (hv : Va W' W'.heap.size v' m') : Rx W8 (some (v', m')) oa W' := by
  refine ⟨s.1.trans (hb.mono s.1.size), fun v m h => ?_, fun b h => ?_⟩
  · injection h with h
    injection h with h1 h2
    subst h1; subst h2; exact hv
  · obtain ⟨k1, k2⟩ := s.2.2 b h
    exact ⟨k1, k2.below hb k2.lt⟩
theorem Rx.name {b : Nat} (s : Rx W8 ov (some b) W) : ∃ ba, b = ba := ⟨b, rfl⟩
theorem Rx.zero {b : Nat} (s : Rx W8 ov (some b) W) : (W.cell? ⟨b, 0, none⟩ = some (.int .i64 0) ∧ W.cell? ⟨b, 1, none⟩ = some (.bool false) ∧ W.cell? ⟨b, 2, none⟩ = some (.slice none 0 0) ∧ W.cell? ⟨b, 3, none⟩ = some (.int .u64 0) ∧ W.cell? ⟨b, 4, none⟩ = some (.string ByteArray.empty) ∧ W.cell? ⟨b, 5, none⟩ = some (.slice none 0 0)) ∧ (W.frozen? ⟨b, 0, none⟩ = false ∧ W.frozen? ⟨b, 1, none⟩ = false ∧ W.frozen? ⟨b, 2, none⟩ = false ∧ W.frozen? ⟨b, 3, none⟩ = false ∧ W.frozen? ⟨b, 4, none⟩ = false ∧ W.frozen? ⟨b, 5, none⟩ = false) ∧ b < W.heap.size :=
  have h := (s.2.2 b rfl).2
  ⟨(zero_cells h).1, (zero_cells h).2, h.lt⟩
theorem Rx.laid {i : Int} {n : Bool} {a : Option Addr} {k c : Nat} (s : Rx W8 (some (.agg #[.int .i64 2, .bool n, .slice a k c, .int .u64 0, .string ByteArray.empty, .slice none 0 0], i)) oa W) : RxFin W8 i W.heap.size n a k c (W.alloc (.cells #[.int .i64 2, .bool n, .slice a k c, .int .u64 0, .string ByteArray.empty, .slice none 0 0] 28)) := by
  have hb : Below W.heap.size W (W.alloc (.cells #[.int .i64 2, .bool n, .slice a k c, .int .u64 0, .string ByteArray.empty, .slice none 0 0] 28)) := (Below.refl _ _).alloc (Nat.le_refl _) _
  exact ⟨s.1.trans (hb.mono s.1.size), s.1.size, Blk.new W _ _, ((s.2.1 _ _ rfl).below hb).more hb.size⟩
theorem Rx.allocB (s : Rx W8 ov oa W) (c : Array Value) (t : TypeId) : Below W8.heap.size W8 (W.alloc (.cells c t)) := by
  have hb : Below W.heap.size W (W.alloc (.cells c t)) := (Below.refl _ _).alloc (Nat.le_refl _) _
  exact s.1.trans (hb.mono s.1.size)
theorem Rx.stored {i : Int} {n : Bool} {a : Option Addr} {k c ba : Nat} (s : Rx W8 (some (.agg #[.int .i64 2, .bool n, .slice a k c, .int .u64 0, .string ByteArray.empty, .slice none 0 0], i)) (some ba) W) : RxFin W8 i ba n a k c ((((((W.setCell ⟨ba, 0, none⟩ (.int .i64 2)).setCell ⟨ba, 1, none⟩ (.bool n)).setCell ⟨ba, 2, none⟩ (.slice a k c)).setCell ⟨ba, 3, none⟩ (.int .u64 0)).setCell ⟨ba, 4, none⟩ (.string ByteArray.empty)).setCell ⟨ba, 5, none⟩ (.slice none 0 0)) := by
  obtain ⟨k1, k2⟩ := s.2.2 ba rfl
  unfold zeroVal at k2
  obtain ⟨q1, q2, q3, q4⟩ := store6 k2 (by simp [bv]) (.int .i64 2) (.bool n) (.slice a k c) (.int .u64 0) (.string ByteArray.empty) (.slice none 0 0) (by simp [bv]) (by simp [bv]) (by simp [bv]) (by simp [bv]) (by simp [bv]) (by simp [bv]) _ rfl
  refine ⟨((((((s.1.setCell (p := ⟨ba, 0, none⟩) k1 _).setCell (p := ⟨ba, 1, none⟩) k1 _).setCell (p := ⟨ba, 2, none⟩) k1 _).setCell (p := ⟨ba, 3, none⟩) k1 _).setCell (p := ⟨ba, 4, none⟩) k1 _).setCell (p := ⟨ba, 5, none⟩) k1 _), k1, q2, ?_⟩
  obtain ⟨mag, e, hm⟩ := s.2.1 _ _ rfl
  rw [q3]
  exact ⟨mag, e, q1 _ _ _ hm⟩
theorem Rx.storedB {ba : Nat} (s : Rx W8 ov (some ba) W) (v0 v1 v2 v3 v4 v5 : Value) : Below W8.heap.size W8 ((((((W.setCell ⟨ba, 0, none⟩ v0).setCell ⟨ba, 1, none⟩ v1).setCell ⟨ba, 2, none⟩ v2).setCell ⟨ba, 3, none⟩ v3).setCell ⟨ba, 4, none⟩ v4).setCell ⟨ba, 5, none⟩ v5) := by
  have k1 := (s.2.2 ba rfl).1
  exact ((((((s.1.setCell (p := ⟨ba, 0, none⟩) k1 _).setCell (p := ⟨ba, 1, none⟩) k1 _).setCell (p := ⟨ba, 2, none⟩) k1 _).setCell (p := ⟨ba, 3, none⟩) k1 _).setCell (p := ⟨ba, 4, none⟩) k1 _).setCell (p := ⟨ba, 5, none⟩) k1 _)
end
theorem sp_cells {w : World} {b : Nat} {n : Bool} {a : Option Addr} {k c : Nat} (h : Blk w b 24 [.bool n, .slice a k c]) : w.cell? ⟨b, 0, none⟩ = some (.bool n) ∧ w.cell? ⟨b, 1, none⟩ = some (.slice a k c) := ⟨h.cell 0 (by simp), h.cell 1 (by simp)⟩
/-- spec.Of of a Val's sign and bytes -/
theorem of_val (i : Int) (n : Bool) (a : Option Addr) (k c : Nat) (w : World) (hv : Va w w.heap.size (.agg #[.int .i64 2, .bool n, .slice a k c, .int .u64 0, .string ByteArray.empty, .slice none 0 0]) i) (hl : i.natAbs < lim) :
    Calls Tryz.prog 12 #[.bool n, .slice a k c] w fun e w' => ∃ n' a' k' c', e = .returned (.agg #[.bool n', .slice a' k' c']) ∧ Sp w' w'.heap.size (.agg #[.bool n', .slice a' k' c']) i ∧ Below w.heap.size w w' := by
  obtain ⟨mag, he, ms, hB, hsl⟩ := hv
  injection he with he
  simp only [Array.mk.injEq, List.cons.injEq, Value.bool.injEq, and_true, true_and] at he
  obtain ⟨rfl, rfl⟩ := he
  refine (of_any _ ms _ w hB.lt (by have := hB.length_le hl; omega) hsl).mono ?_
  intro e w' ho
  obtain ⟨v, rfl, hs, hb⟩ := OfPost.sp ho
  obtain ⟨q, p, k', d, rfl⟩ := hs.form
  have hval : bval ms = i.natAbs := Rep.val hB
  rw [hval] at hs
  refine ⟨q, p, k', d, rfl, ?_, hb⟩
  by_cases h : i < 0
  · rw [if_pos (by simpa using h)] at hs
    rwa [show -((i.natAbs : Nat) : Int) = i by omega] at hs
  · rw [if_neg (by simpa using h)] at hs
    rwa [show ((i.natAbs : Nat) : Int) = i by omega] at hs
/-- spec.Of of false and a spec.Int's bytes -/
theorem of_mag (i : Int) (n : Bool) (a : Option Addr) (k c : Nat) (w : World) (hv : Sp w w.heap.size (.agg #[.bool n, .slice a k c]) i) (hl : i.natAbs < lim) :
    Calls Tryz.prog 12 #[.bool false, .slice a k c] w fun e w' => ∃ n' a' k' c', e = .returned (.agg #[.bool n', .slice a' k' c']) ∧ Sp w' w'.heap.size (.agg #[.bool n', .slice a' k' c']) (i.natAbs : Int) ∧ Below w.heap.size w w' := by
  obtain ⟨mag, he, ms, hB, hsl⟩ := hv
  injection he with he
  simp only [Array.mk.injEq, List.cons.injEq, Value.bool.injEq, and_true, true_and] at he
  obtain ⟨rfl, rfl⟩ := he
  refine (of_any false ms _ w hB.lt (by have := hB.length_le hl; omega) hsl).mono ?_
  intro e w' ho
  obtain ⟨v, rfl, hs, hb⟩ := OfPost.sp ho
  obtain ⟨q, p, k', d, rfl⟩ := hs.form
  have hval : bval ms = i.natAbs := Rep.val hB
  rw [hval] at hs
  exact ⟨q, p, k', d, rfl, by simpa using hs, hb⟩
/-- the two magnitudes are reckoned -/
def Dx (W9 : World) (i j : Int) (o1 o2 : Option Value) (W : World) : Prop := Below W9.heap.size W9 W ∧ (∀ v, o1 = some v → Sp W W.heap.size v (i.natAbs : Int)) ∧ (∀ v, o2 = some v → Sp W W.heap.size v (j.natAbs : Int))
section
variable {W9 W W' : World} {i j : Int} {o1 o2 : Option Value}
theorem Dx.start (W9 : World) (i j : Int) : Dx W9 i j none none W9 := ⟨Below.refl _ _, by simp, by simp⟩
theorem Dx.b (s : Dx W9 i j o1 o2 W) : Below W9.heap.size W9 W := s.1
theorem Dx.drew (s : Dx W9 i j o1 o2 W) : Dx W9 i j o1 o2 W.drew := ⟨s.1.drew, s.2.1, s.2.2⟩
theorem Dx.one {v1 : Value} (s : Dx W9 i j o1 o2 W) (hb : Below W.heap.size W W') (hv : Sp W' W'.heap.size v1 (i.natAbs : Int)) : Dx W9 i j (some v1) o2 W' := by
  refine ⟨s.1.trans (hb.mono s.1.size), fun v h => ?_, fun v h => ((s.2.2 v h).below hb).more hb.size⟩
  injection h with h; subst h; exact hv
theorem Dx.two {v2 : Value} (s : Dx W9 i j o1 o2 W) (hb : Below W.heap.size W W') (hv : Sp W' W'.heap.size v2 (j.natAbs : Int)) : Dx W9 i j o1 (some v2) W' := by
  refine ⟨s.1.trans (hb.mono s.1.size), fun v h => ((s.2.1 v h).below hb).more hb.size, fun v h => ?_⟩
  injection h with h; subst h; exact hv
end
/-- the sign of a spec.Int -/
theorem Sp.neg {W : World} {B : Nat} {n : Bool} {a : Option Addr} {k c : Nat} {i : Int} (h : Sp W B (.agg #[.bool n, .slice a k c]) i) : n = decide (i < 0) := by
  obtain ⟨mag, he, _⟩ := h
  injection he with he
  simp only [Array.mk.injEq, List.cons.injEq, Value.bool.injEq] at he
  exact he.1
end Go.Proofs.YtpcnmgldmnncoaaGreatDoor
