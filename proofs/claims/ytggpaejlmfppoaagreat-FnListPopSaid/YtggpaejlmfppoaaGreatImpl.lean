/- What two Vals are while a third one is reckoned of them: the words for the walks of impl.IntAdd and its kin. -/
import Derived.Test.YtggpaejlmfppoaaGreatMTold
import Derived.Test.YtggpaejlmfppoaaGreatWhole2
namespace Go.Proofs.YtggpaejlmfppoaaGreat
open Go.RowKit Dig
set_option linter.unusedVariables false
set_option linter.unusedSimpArgs false
set_option maxRecDepth 100000

/-- what a Val of the kind Int becomes when it is laid into a result's variable -/
theorem VaPost.parts {i : Int} {w w' : World} {e : Ending} (h : VaPost i w e w') : ∃ (neg : Bool) (a : Option Addr) (k c : Nat), e = .returned (.agg #[.int .i64 2, .bool neg, .slice a k c, .int .u64 0, .string ByteArray.empty, .slice none 0 0]) ∧
    neg = decide (i < 0) ∧ By w' w'.heap.size (.slice a k c) i.natAbs ∧ Below w.heap.size w w' := by
  obtain ⟨v, rfl, ⟨mag, rfl, ms, hm, hs⟩, hb⟩ := h
  obtain ⟨a, c, rfl, _⟩ := id hs
  exact ⟨_, a, _, c, rfl, rfl, ⟨ms, hm, hs⟩, hb⟩
theorem Va.parts {w : World} {B : Nat} {v : Value} {i : Int} (h : Va w B v i) : ∃ (neg : Bool) (a : Option Addr) (k c : Nat), v = .agg #[.int .i64 2, .bool neg, .slice a k c, .int .u64 0, .string ByteArray.empty, .slice none 0 0] := by
  obtain ⟨mag, rfl, ms, _, hs⟩ := h
  obtain ⟨a, c, rfl, _⟩ := id hs
  exact ⟨_, a, _, c, rfl⟩
/-- which of the two operands are integers of the package by now -/
def Sw (W0 : World) (h : Nat) (i j : Int) (o1 o2 : Option Value) (W : World) : Prop :=
  Below h W0 W ∧ h ≤ W.heap.size ∧ (∀ v, o1 = some v → In W W.heap.size v i) ∧ (∀ v, o2 = some v → In W W.heap.size v j)
section
variable {W0 W : World} {h : Nat} {i j : Int} {o1 o2 : Option Value}
theorem Sw.below (s : Sw W0 h i j o1 o2 W) : Below h W0 W := s.1
theorem Sw.drew (s : Sw W0 h i j o1 o2 W) : Sw W0 h i j o1 o2 W.drew := ⟨s.1.drew, s.2.1, s.2.2.1, s.2.2.2⟩
theorem Sw.start (hh : h ≤ W.heap.size) (hb : Below h W0 W) : Sw W0 h i j none none W := ⟨hb, hh, by simp, by simp⟩
theorem Sw.whole1 {v : Value} {B : Nat} {w : World} (s : Sw W0 h i j none o2 W) (hv : Va w B v i) (hw : Below B w W0) (hB : B ≤ h) (hl : i.natAbs < lim) :
    Calls Tryz.prog 74 #[v] W fun e w' => ∃ t q, e = .returned (.agg #[.int .i64 t, .pointer q]) ∧ Sw W0 h i j (some (.agg #[.int .i64 t, .pointer q])) o2 w' := by
  obtain ⟨h1, h2, h3, h4⟩ := s
  refine (whole_any v i W ((hv.below (hw.trans (h1.mono hB))).more (Nat.le_trans hB h2)) hl).mono ?_
  rintro e w' ⟨v, rfl, hin, hb⟩
  obtain ⟨t, q, rfl⟩ := hin.form
  exact ⟨t, q, rfl, h1.trans (hb.mono h2), Nat.le_trans h2 hb.size, (fun v hv => by injection hv with hv; subst hv; exact hin), fun v hv => ((h4 v hv).below hb).more hb.size⟩
theorem Sw.whole2 {v : Value} {B : Nat} {w : World} (s : Sw W0 h i j o1 none W) (hv : Va w B v j) (hw : Below B w W0) (hB : B ≤ h) (hl : j.natAbs < lim) :
    Calls Tryz.prog 74 #[v] W fun e w' => ∃ t q, e = .returned (.agg #[.int .i64 t, .pointer q]) ∧ Sw W0 h i j o1 (some (.agg #[.int .i64 t, .pointer q])) w' := by
  obtain ⟨h1, h2, h3, h4⟩ := s
  refine (whole_any v j W ((hv.below (hw.trans (h1.mono hB))).more (Nat.le_trans hB h2)) hl).mono ?_
  rintro e w' ⟨v, rfl, hin, hb⟩
  obtain ⟨t, q, rfl⟩ := hin.form
  exact ⟨t, q, rfl, h1.trans (hb.mono h2), Nat.le_trans h2 hb.size, fun v hv => ((h3 v hv).below hb).more hb.size, (fun v hv => by injection hv with hv; subst hv; exact hin)⟩
end
/-- the world in which the walk of such a function reckons -/
def valW (w : World) (L1 L2 : List Value) : World := ((w.alloc (.cells L1.toArray 27)).alloc (.cells L2.toArray 27)).alloc (.cells zeroVal.toArray 27)
theorem valW_facts (w : World) (L1 L2 : List Value) : (valW w L1 L2).heap.size = w.heap.size + 3 ∧ Below w.heap.size w (valW w L1 L2) ∧ Blk (valW w L1 L2) w.heap.size 27 L1 ∧
    Blk (valW w L1 L2) (w.heap.size + 1) 27 L2 ∧ Blk (valW w L1 L2) (w.heap.size + 1 + 1) 27 zeroVal := by
  refine ⟨by simp [valW], (((Below.refl _ _).alloc (Nat.le_refl _) _).alloc (by simp) _).alloc (by simp; omega) _, ((Blk.new w _ L1).alloc _).alloc _, ?_, ?_⟩
  · have := (Blk.new (w.alloc (.cells L1.toArray 27)) 27 L2).alloc (.cells zeroVal.toArray 27)
    simpa [valW] using this
  · have := Blk.new ((w.alloc (.cells L1.toArray 27)).alloc (.cells L2.toArray 27)) 27 zeroVal
    simpa [valW] using this
theorem val_cells {w : World} {b : Nat} {neg : Bool} {a : Option Addr} {k c : Nat} (h : Blk w b 27 [.int .i64 2, .bool neg, .slice a k c, .int .u64 0, .string ByteArray.empty, .slice none 0 0]) :
    w.cell? ⟨b, 0, none⟩ = some (.int .i64 2) ∧ w.cell? ⟨b, 1, none⟩ = some (.bool neg) ∧ w.cell? ⟨b, 2, none⟩ = some (.slice a k c) ∧ w.cell? ⟨b, 3, none⟩ = some (.int .u64 0) ∧ w.cell? ⟨b, 4, none⟩ = some (.string ByteArray.empty) ∧ w.cell? ⟨b, 5, none⟩ = some (.slice none 0 0) :=
  ⟨h.cell 0 (by simp), h.cell 1 (by simp), h.cell 2 (by simp), h.cell 3 (by simp), h.cell 4 (by simp), h.cell 5 (by simp)⟩
theorem zero_cells {w : World} {b : Nat} (h : Blk w b 27 zeroVal) :
    (w.cell? ⟨b, 0, none⟩ = some (.int .i64 0) ∧ w.cell? ⟨b, 1, none⟩ = some (.bool false) ∧ w.cell? ⟨b, 2, none⟩ = some (.slice none 0 0) ∧ w.cell? ⟨b, 3, none⟩ = some (.int .u64 0) ∧ w.cell? ⟨b, 4, none⟩ = some (.string ByteArray.empty) ∧ w.cell? ⟨b, 5, none⟩ = some (.slice none 0 0)) ∧
    w.frozen? ⟨b, 0, none⟩ = false ∧ w.frozen? ⟨b, 1, none⟩ = false ∧ w.frozen? ⟨b, 2, none⟩ = false ∧ w.frozen? ⟨b, 3, none⟩ = false ∧ w.frozen? ⟨b, 4, none⟩ = false ∧ w.frozen? ⟨b, 5, none⟩ = false :=
  ⟨⟨h.cell 0 (by simp [zeroVal]), h.cell 1 (by simp [zeroVal]), h.cell 2 (by simp [zeroVal]), h.cell 3 (by simp [zeroVal]), h.cell 4 (by simp [zeroVal]), h.cell 5 (by simp [zeroVal])⟩, h.free 0, h.free 1, h.free 2, h.free 3, h.free 4, h.free 5⟩
/-- six stores into another block -/
theorem Blk.far6 {w : World} {b z : Nat} {t : TypeId} {L : List Value} (h : Blk w b t L) (hz : b ≠ z) (v0 v1 v2 v3 v4 v5 : Value) : Blk ((((((w.setCell ⟨z, 0, none⟩ v0).setCell ⟨z, 1, none⟩ v1).setCell ⟨z, 2, none⟩ v2).setCell ⟨z, 3, none⟩ v3).setCell ⟨z, 4, none⟩ v4).setCell ⟨z, 5, none⟩ v5) b t L :=
  (((((h.far (p := ⟨z, 0, none⟩) hz v0).far (p := ⟨z, 1, none⟩) hz v1).far (p := ⟨z, 2, none⟩) hz v2).far (p := ⟨z, 3, none⟩) hz v3).far (p := ⟨z, 4, none⟩) hz v4).far (p := ⟨z, 5, none⟩) hz v5
end Go.Proofs.YtggpaejlmfppoaaGreat
