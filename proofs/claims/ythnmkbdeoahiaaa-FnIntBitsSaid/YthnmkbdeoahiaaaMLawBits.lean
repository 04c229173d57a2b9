/- The words for the walk of the law FnIntBits: two integers in their variables; and, or in theirs. The law FnIntBits. -/
import Derived.Test.YthnmkbdeoahiaaaMImplBit
import Derived.Test.YthnmkbdeoahiaaaMImplAdd
import Derived.Test.YthnmkbdeoahiaaaSpecAdd2
import Derived.Test.YthnmkbdeoahiaaaSpecIs
import Derived.Test.YthnmkbdeoahiaaaRowSl
import Derived.Test.YthnmkbdeoahiaaaCmp6
import Derived.Deep.RegionHeld3
import Derived.Deep.CutRange
namespace Go.Proofs.Ythnmkbdeoahiaaa
open Go.RowKit Dig
set_option linter.unusedVariables false
set_option linter.unusedSimpArgs false
set_option maxRecDepth 100000

/-- an integer as the reference and as the program has it, each in a variable -/
def Int2 (W : World) (b : Nat) (i : Int) (n1 : Bool) (a1 : Option Addr) (k1 c1 : Nat) (n2 : Bool) (a2 : Option Addr) (k2 c2 : Nat) : Prop :=
  Blk W b 24 [.bool n1, .slice a1 k1 c1] ∧ Blk W (b + 1) 28 [.int .i64 2, .bool n2, .slice a2 k2 c2, .int .u64 0, .string ByteArray.empty, .slice none 0 0] ∧
  Sp W W.heap.size (.agg #[.bool n1, .slice a1 k1 c1]) i ∧ Va W W.heap.size (.agg #[.int .i64 2, .bool n2, .slice a2 k2 c2, .int .u64 0, .string ByteArray.empty, .slice none 0 0]) i
theorem Int2.below {W W' : World} {b : Nat} {i : Int} {n1 n2 : Bool} {a1 a2 : Option Addr} {k1 c1 k2 c2 : Nat} (h : Int2 W b i n1 a1 k1 c1 n2 a2 k2 c2) (hb : Below W.heap.size W W') : Int2 W' b i n1 a1 k1 c1 n2 a2 k2 c2 :=
  ⟨h.1.below hb h.1.lt, h.2.1.below hb h.2.1.lt, (h.2.2.1.below hb).more hb.size, (h.2.2.2.below hb).more hb.size⟩
theorem Int2.cells {W : World} {b : Nat} {i : Int} {n1 n2 : Bool} {a1 a2 : Option Addr} {k1 c1 k2 c2 : Nat} (h : Int2 W b i n1 a1 k1 c1 n2 a2 k2 c2) :
    (W.cell? ⟨b, 0, none⟩ = some (.bool n1) ∧ W.cell? ⟨b, 1, none⟩ = some (.slice a1 k1 c1)) ∧ (W.cell? ⟨b + 1, 0, none⟩ = some (.int .i64 2) ∧ W.cell? ⟨b + 1, 1, none⟩ = some (.bool n2) ∧ W.cell? ⟨b + 1, 2, none⟩ = some (.slice a2 k2 c2) ∧ W.cell? ⟨b + 1, 3, none⟩ = some (.int .u64 0) ∧ W.cell? ⟨b + 1, 4, none⟩ = some (.string ByteArray.empty) ∧ W.cell? ⟨b + 1, 5, none⟩ = some (.slice none 0 0)) :=
  ⟨⟨h.1.cell 0 (by simp), h.1.cell 1 (by simp)⟩, val_cells h.2.1⟩
/-- the variables of an integer have just been laid -/
theorem Int2.new {w : World} {i : Int} {n1 n2 : Bool} {a1 a2 : Option Addr} {k1 c1 k2 c2 : Nat} (hx : Sp w w.heap.size (.agg #[.bool n1, .slice a1 k1 c1]) i) (hp : Va w w.heap.size (.agg #[.int .i64 2, .bool n2, .slice a2 k2 c2, .int .u64 0, .string ByteArray.empty, .slice none 0 0]) i) :
    Int2 ((w.alloc (.cells #[.bool n1, .slice a1 k1 c1] 24)).alloc (.cells #[.int .i64 2, .bool n2, .slice a2 k2 c2, .int .u64 0, .string ByteArray.empty, .slice none 0 0] 28)) w.heap.size i n1 a1 k1 c1 n2 a2 k2 c2 ∧
    Below w.heap.size w ((w.alloc (.cells #[.bool n1, .slice a1 k1 c1] 24)).alloc (.cells #[.int .i64 2, .bool n2, .slice a2 k2 c2, .int .u64 0, .string ByteArray.empty, .slice none 0 0] 28)) := by
  have hb : Below w.heap.size w ((w.alloc (.cells #[.bool n1, .slice a1 k1 c1] 24)).alloc (.cells #[.int .i64 2, .bool n2, .slice a2 k2 c2, .int .u64 0, .string ByteArray.empty, .slice none 0 0] 28)) := ((Below.refl _ _).alloc (Nat.le_refl _) _).alloc (by simp) _
  refine ⟨⟨(Blk.new w _ [.bool n1, .slice a1 k1 c1]).alloc _, ?_, (hx.below hb).more hb.size, (hp.below hb).more hb.size⟩, hb⟩
  have := Blk.new (w.alloc (.cells #[.bool n1, .slice a1 k1 c1] 24)) 28 [.int .i64 2, .bool n2, .slice a2 k2 c2, .int .u64 0, .string ByteArray.empty, .slice none 0 0]
  simpa using this
/-- a second integer has been laid behind a first one -/
def Second (w : World) (most bX : Nat) (i : Int) (n1 : Bool) (a1 : Option Addr) (k1 c1 : Nat) (n2 : Bool) (a2 : Option Addr) (k2 c2 : Nat) (u v : Value) (wx : World) : Prop :=
  ∃ (bY : Nat) (j : Int) (n3 n4 : Bool) (a3 a4 : Option Addr) (k3 c3 k4 c4 : Nat), u = .pointer (some ⟨bY, 0, none⟩) ∧ v = .pointer (some ⟨bY + 1, 0, none⟩) ∧ j.natAbs < 256 ^ most ∧
    Int2 wx bX i n1 a1 k1 c1 n2 a2 k2 c2 ∧ Int2 wx bY j n3 a3 k3 c3 n4 a4 k4 c4 ∧ Below w.heap.size w wx ∧ bX + 1 < bY

/-- what the region that reckons and and or has brought about -/
def St5 (W0 : World) (i j : Int) (oA oO : Option Nat) (rA rO : Option Value) (W : World) : Prop :=
  Below W0.heap.size W0 W ∧ (∀ b, oA = some b → W0.heap.size ≤ b ∧ Blk W b 28 zeroVal) ∧ (∀ b, oO = some b → W0.heap.size ≤ b ∧ Blk W b 28 zeroVal) ∧ (∀ a b, oA = some a → oO = some b → a ≠ b) ∧
  (∀ v, rA = some v → Va W W.heap.size v (andI i j)) ∧ (∀ v, rO = some v → Va W W.heap.size v (orI i j))
section
variable {W0 W W' : World} {i j : Int} {oA oO : Option Nat} {rA rO : Option Value}
theorem St5.b (s : St5 W0 i j oA oO rA rO W) : Below W0.heap.size W0 W := s.1
theorem St5.bA {b : Nat} (s : St5 W0 i j (some b) oO rA rO W) : W0.heap.size ≤ b := (s.2.1 b rfl).1
theorem St5.bO {b : Nat} (s : St5 W0 i j oA (some b) rA rO W) : W0.heap.size ≤ b := (s.2.2.1 b rfl).1
theorem St5.drew (s : St5 W0 i j oA oO rA rO W) : St5 W0 i j oA oO rA rO W.drew := ⟨s.1.drew, s.2⟩
theorem St5.next (s : St5 W0 i j oA oO rA rO W) (hb : Below W.heap.size W W') : St5 W0 i j oA oO rA rO W' :=
  ⟨s.1.trans (hb.mono s.1.size), fun b h => ⟨(s.2.1 b h).1, (s.2.1 b h).2.below hb (s.2.1 b h).2.lt⟩, fun b h => ⟨(s.2.2.1 b h).1, (s.2.2.1 b h).2.below hb (s.2.2.1 b h).2.lt⟩, s.2.2.2.1, fun v h => ((s.2.2.2.2.1 v h).below hb).more hb.size, fun v h => ((s.2.2.2.2.2 v h).below hb).more hb.size⟩
theorem St5.one (W : World) (o : Obj) : Below W.heap.size W (W.alloc o) := (Below.refl _ _).alloc (Nat.le_refl _) _
theorem below_al {w w' : World} (h : Below w.heap.size w w') (o : Obj) : Below w.heap.size w (w'.alloc o) := h.alloc h.size o
theorem below_s6 {w w' : World} (h : Below w.heap.size w w') {b : Nat} (hb : w.heap.size ≤ b) (v0 v1 v2 v3 v4 v5 : Value) : Below w.heap.size w ((((((w'.setCell ⟨b, 0, none⟩ v0).setCell ⟨b, 1, none⟩ v1).setCell ⟨b, 2, none⟩ v2).setCell ⟨b, 3, none⟩ v3).setCell ⟨b, 4, none⟩ v4).setCell ⟨b, 5, none⟩ v5) :=
  (((((h.setCell (p := ⟨b, 0, none⟩) hb v0).setCell (p := ⟨b, 1, none⟩) hb v1).setCell (p := ⟨b, 2, none⟩) hb v2).setCell (p := ⟨b, 3, none⟩) hb v3).setCell (p := ⟨b, 4, none⟩) hb v4).setCell (p := ⟨b, 5, none⟩) hb v5
theorem St5.allocA (s : St5 W0 i j none oO rA rO W) : St5 W0 i j (some W.heap.size) oO rA rO (W.alloc (.cells #[.int .i64 0, .bool false, .slice none 0 0, .int .u64 0, .string { data := #[] }, .slice none 0 0] 28)) := by
  have h := s.next (St5.one W (.cells zeroVal.toArray 28))
  refine ⟨h.1, ?_, h.2.2.1, ?_, h.2.2.2.2⟩
  · intro b hb; injection hb with hb; subst hb
    exact ⟨s.1.size, Blk.new W _ zeroVal⟩
  · intro a b ha hb
    injection ha with ha
    have := (s.2.2.1 b hb).2.lt
    omega
theorem St5.allocO (s : St5 W0 i j oA none rA rO W) : St5 W0 i j oA (some W.heap.size) rA rO (W.alloc (.cells #[.int .i64 0, .bool false, .slice none 0 0, .int .u64 0, .string { data := #[] }, .slice none 0 0] 28)) := by
  have h := s.next (St5.one W (.cells zeroVal.toArray 28))
  refine ⟨h.1, h.2.1, ?_, ?_, h.2.2.2.2⟩
  · intro b hb; injection hb with hb; subst hb
    exact ⟨s.1.size, Blk.new W _ zeroVal⟩
  · intro a b ha hb
    injection hb with hb
    have := (s.2.1 a ha).2.lt
    omega
theorem St5.allocAd (s : St5 W0 i j none oO rA rO W.drew) : St5 W0 i j (some W.heap.size) oO rA rO (W.alloc (.cells #[.int .i64 0, .bool false, .slice none 0 0, .int .u64 0, .string { data := #[] }, .slice none 0 0] 28)).drew := s.allocA
theorem St5.alloc2 (s : St5 W0 i j none none rA rO W) : St5 W0 i j (some W.heap.size) (some (W.heap.size + 1)) rA rO ((W.alloc (.cells #[.int .i64 0, .bool false, .slice none 0 0, .int .u64 0, .string { data := #[] }, .slice none 0 0] 28)).alloc (.cells #[.int .i64 0, .bool false, .slice none 0 0, .int .u64 0, .string { data := #[] }, .slice none 0 0] 28)) := by
  have h := s.allocA.allocO
  simpa using h
theorem St5.alloc2d (s : St5 W0 i j none none rA rO W.drew) : St5 W0 i j (some W.heap.size) (some (W.heap.size + 1)) rA rO ((W.alloc (.cells #[.int .i64 0, .bool false, .slice none 0 0, .int .u64 0, .string { data := #[] }, .slice none 0 0] 28)).alloc (.cells #[.int .i64 0, .bool false, .slice none 0 0, .int .u64 0, .string { data := #[] }, .slice none 0 0] 28)).drew := s.alloc2
end

/-- two Vals in hand, and what lies below -/
def Vs (W0 : World) (i j : Int) (A O : Value) (W : World) : Prop := Below W0.heap.size W0 W ∧ Va W W.heap.size A i ∧ Va W W.heap.size O j
theorem Va.put {W : World} {B b : Nat} {v : Value} {i : Int} {n : Bool} {a : Option Addr} {k c : Nat} (h : Va W B v i) (hk : Blk W b 28 zeroVal) : Va ((((((W.setCell ⟨b, 0, none⟩ (.int .i64 2)).setCell ⟨b, 1, none⟩ (.bool n)).setCell ⟨b, 2, none⟩ (.slice a k c)).setCell ⟨b, 3, none⟩ (.int .u64 0)).setCell ⟨b, 4, none⟩ (.string ByteArray.empty)).setCell ⟨b, 5, none⟩ (.slice none 0 0)) B v i := by
  obtain ⟨mag, rfl, hy⟩ := h
  exact ⟨mag, rfl, hy.farVal hk⟩
theorem Vs.al {W0 W : World} {i j : Int} {A O : Value} (h : Vs W0 i j A O W) (o : Obj) : Vs W0 i j A O (W.alloc o) :=
  ⟨below_al h.1 o, (h.2.1.below (St5.one W o)).more (St5.one W o).size, (h.2.2.below (St5.one W o)).more (St5.one W o).size⟩
theorem Blk.put {W : World} {b : Nat} (n : Bool) (a : Option Addr) (k c : Nat) (hk : Blk W b 28 zeroVal) : Blk ((((((W.setCell ⟨b, 0, none⟩ (.int .i64 2)).setCell ⟨b, 1, none⟩ (.bool n)).setCell ⟨b, 2, none⟩ (.slice a k c)).setCell ⟨b, 3, none⟩ (.int .u64 0)).setCell ⟨b, 4, none⟩ (.string ByteArray.empty)).setCell ⟨b, 5, none⟩ (.slice none 0 0)) b 28 [.int .i64 2, .bool n, .slice a k c, .int .u64 0, .string ByteArray.empty, .slice none 0 0] :=
  (((((hk.set 0 (.int .i64 2)).set 1 (.bool n)).set 2 (.slice a k c)).set 3 (.int .u64 0)).set 4 (.string ByteArray.empty)).set 5 (.slice none 0 0)
theorem Vs.put {W0 W : World} {i j : Int} {A O : Value} {b : Nat} (n : Bool) (a : Option Addr) (k c : Nat) (h : Vs W0 i j A O W) (hk : Blk W b 28 zeroVal) (hb : W0.heap.size ≤ b) : Vs W0 i j A O ((((((W.setCell ⟨b, 0, none⟩ (.int .i64 2)).setCell ⟨b, 1, none⟩ (.bool n)).setCell ⟨b, 2, none⟩ (.slice a k c)).setCell ⟨b, 3, none⟩ (.int .u64 0)).setCell ⟨b, 4, none⟩ (.string ByteArray.empty)).setCell ⟨b, 5, none⟩ (.slice none 0 0)) := by
  refine ⟨below_s6 h.1 hb _ _ _ _ _ _, ?_, ?_⟩
  · have := h.2.1.put (n := n) (a := a) (k := k) (c := c) hk
    simpa [World.setCell] using this
  · have := h.2.2.put (n := n) (a := a) (k := k) (c := c) hk
    simpa [World.setCell] using this
/-- and and or, each in its variable -/
def Out5 (W0 : World) (i j : Int) (u v : Value) (wx : World) : Prop :=
  ∃ (bA bO : Nat) (nA nO : Bool) (aA aO : Option Addr) (kA cA kO cO : Nat), u = .pointer (some ⟨bA, 0, none⟩) ∧ v = .pointer (some ⟨bO, 0, none⟩) ∧
    Blk wx bA 28 [.int .i64 2, .bool nA, .slice aA kA cA, .int .u64 0, .string ByteArray.empty, .slice none 0 0] ∧ Blk wx bO 28 [.int .i64 2, .bool nO, .slice aO kO cO, .int .u64 0, .string ByteArray.empty, .slice none 0 0] ∧
    Vs W0 (andI i j) (orI i j) (.agg #[.int .i64 2, .bool nA, .slice aA kA cA, .int .u64 0, .string ByteArray.empty, .slice none 0 0]) (.agg #[.int .i64 2, .bool nO, .slice aO kO cO, .int .u64 0, .string ByteArray.empty, .slice none 0 0]) wx
section
variable {W0 W : World} {i j : Int} {oA oO : Option Nat} {nA nO : Bool} {aA aO : Option Addr} {kA cA kO cO : Nat}
theorem St5.vs {A O : Value} (s : St5 W0 i j oA oO (some A) (some O) W) : Vs W0 (andI i j) (orI i j) A O W := ⟨s.1, s.2.2.2.2.1 _ rfl, s.2.2.2.2.2 _ rfl⟩
theorem St5.fin1 (s : St5 W0 i j oA oO (some (.agg #[.int .i64 2, .bool nA, .slice aA kA cA, .int .u64 0, .string ByteArray.empty, .slice none 0 0])) (some (.agg #[.int .i64 2, .bool nO, .slice aO kO cO, .int .u64 0, .string ByteArray.empty, .slice none 0 0])) W) : Out5 W0 i j (.pointer (some ⟨W.heap.size, 0, none⟩)) (.pointer (some ⟨W.heap.size + 1, 0, none⟩)) ((W.alloc (.cells #[.int .i64 2, .bool nA, .slice aA kA cA, .int .u64 0, .string ByteArray.empty, .slice none 0 0] 28)).alloc (.cells #[.int .i64 2, .bool nO, .slice aO kO cO, .int .u64 0, .string ByteArray.empty, .slice none 0 0] 28)) := by
  refine ⟨_, _, nA, nO, aA, aO, kA, cA, kO, cO, rfl, rfl, (Blk.new W _ [.int .i64 2, .bool nA, .slice aA kA cA, .int .u64 0, .string ByteArray.empty, .slice none 0 0]).alloc _, ?_, (s.vs.al _).al _⟩
  have := Blk.new (W.alloc (.cells #[.int .i64 2, .bool nA, .slice aA kA cA, .int .u64 0, .string ByteArray.empty, .slice none 0 0] 28)) 28 [.int .i64 2, .bool nO, .slice aO kO cO, .int .u64 0, .string ByteArray.empty, .slice none 0 0]
  simpa using this
theorem St5.fin2 (s : St5 W0 i j oA oO (some (.agg #[.int .i64 2, .bool nA, .slice aA kA cA, .int .u64 0, .string ByteArray.empty, .slice none 0 0])) (some (.agg #[.int .i64 2, .bool nO, .slice aO kO cO, .int .u64 0, .string ByteArray.empty, .slice none 0 0])) W) : Out5 W0 i j (.pointer (some ⟨W.heap.size + 1, 0, none⟩)) (.pointer (some ⟨W.heap.size, 0, none⟩)) ((W.alloc (.cells #[.int .i64 2, .bool nO, .slice aO kO cO, .int .u64 0, .string ByteArray.empty, .slice none 0 0] 28)).alloc (.cells #[.int .i64 2, .bool nA, .slice aA kA cA, .int .u64 0, .string ByteArray.empty, .slice none 0 0] 28)) := by
  refine ⟨_, _, nA, nO, aA, aO, kA, cA, kO, cO, rfl, rfl, ?_, (Blk.new W _ [.int .i64 2, .bool nO, .slice aO kO cO, .int .u64 0, .string ByteArray.empty, .slice none 0 0]).alloc _, (s.vs.al _).al _⟩
  have := Blk.new (W.alloc (.cells #[.int .i64 2, .bool nO, .slice aO kO cO, .int .u64 0, .string ByteArray.empty, .slice none 0 0] 28)) 28 [.int .i64 2, .bool nA, .slice aA kA cA, .int .u64 0, .string ByteArray.empty, .slice none 0 0]
  simpa using this
theorem set6_size (W : World) (b : Nat) (v0 v1 v2 v3 v4 v5 : Value) : ((((((W.setCell ⟨b, 0, none⟩ v0).setCell ⟨b, 1, none⟩ v1).setCell ⟨b, 2, none⟩ v2).setCell ⟨b, 3, none⟩ v3).setCell ⟨b, 4, none⟩ v4).setCell ⟨b, 5, none⟩ v5).heap.size = W.heap.size := by simp [World.setCell]
theorem St5.fin3 {x : Nat} (s : St5 W0 i j (some x) oO (some (.agg #[.int .i64 2, .bool nA, .slice aA kA cA, .int .u64 0, .string ByteArray.empty, .slice none 0 0])) (some (.agg #[.int .i64 2, .bool nO, .slice aO kO cO, .int .u64 0, .string ByteArray.empty, .slice none 0 0])) W) : Out5 W0 i j (.pointer (some ⟨x, 0, none⟩)) (.pointer (some ⟨W.heap.size, 0, none⟩)) (((((((W.setCell ⟨x, 0, none⟩ (.int .i64 2)).setCell ⟨x, 1, none⟩ (.bool nA)).setCell ⟨x, 2, none⟩ (.slice aA kA cA)).setCell ⟨x, 3, none⟩ (.int .u64 0)).setCell ⟨x, 4, none⟩ (.string ByteArray.empty)).setCell ⟨x, 5, none⟩ (.slice none 0 0)).alloc (.cells #[.int .i64 2, .bool nO, .slice aO kO cO, .int .u64 0, .string ByteArray.empty, .slice none 0 0] 28)) := by
  have hk := (s.2.1 x rfl).2
  refine ⟨_, _, nA, nO, aA, aO, kA, cA, kO, cO, rfl, rfl, (hk.put nA aA kA cA).alloc _, ?_, (s.vs.put nA aA kA cA hk s.bA).al _⟩
  have := Blk.new ((((((W.setCell ⟨x, 0, none⟩ (.int .i64 2)).setCell ⟨x, 1, none⟩ (.bool nA)).setCell ⟨x, 2, none⟩ (.slice aA kA cA)).setCell ⟨x, 3, none⟩ (.int .u64 0)).setCell ⟨x, 4, none⟩ (.string ByteArray.empty)).setCell ⟨x, 5, none⟩ (.slice none 0 0)) 28 [.int .i64 2, .bool nO, .slice aO kO cO, .int .u64 0, .string ByteArray.empty, .slice none 0 0]
  rw [set6_size] at this
  exact this
theorem St5.fin4 {x : Nat} (s : St5 W0 i j (some x) oO (some (.agg #[.int .i64 2, .bool nA, .slice aA kA cA, .int .u64 0, .string ByteArray.empty, .slice none 0 0])) (some (.agg #[.int .i64 2, .bool nO, .slice aO kO cO, .int .u64 0, .string ByteArray.empty, .slice none 0 0])) W) : Out5 W0 i j (.pointer (some ⟨W.heap.size, 0, none⟩)) (.pointer (some ⟨x, 0, none⟩)) (((((((W.setCell ⟨x, 0, none⟩ (.int .i64 2)).setCell ⟨x, 1, none⟩ (.bool nO)).setCell ⟨x, 2, none⟩ (.slice aO kO cO)).setCell ⟨x, 3, none⟩ (.int .u64 0)).setCell ⟨x, 4, none⟩ (.string ByteArray.empty)).setCell ⟨x, 5, none⟩ (.slice none 0 0)).alloc (.cells #[.int .i64 2, .bool nA, .slice aA kA cA, .int .u64 0, .string ByteArray.empty, .slice none 0 0] 28)) := by
  have hk := (s.2.1 x rfl).2
  refine ⟨_, _, nA, nO, aA, aO, kA, cA, kO, cO, rfl, rfl, ?_, (hk.put nO aO kO cO).alloc _, (s.vs.put nO aO kO cO hk s.bA).al _⟩
  have := Blk.new ((((((W.setCell ⟨x, 0, none⟩ (.int .i64 2)).setCell ⟨x, 1, none⟩ (.bool nO)).setCell ⟨x, 2, none⟩ (.slice aO kO cO)).setCell ⟨x, 3, none⟩ (.int .u64 0)).setCell ⟨x, 4, none⟩ (.string ByteArray.empty)).setCell ⟨x, 5, none⟩ (.slice none 0 0)) 28 [.int .i64 2, .bool nA, .slice aA kA cA, .int .u64 0, .string ByteArray.empty, .slice none 0 0]
  rw [set6_size] at this
  exact this
theorem St5.fin5 {x y : Nat} (s : St5 W0 i j (some x) (some y) (some (.agg #[.int .i64 2, .bool nA, .slice aA kA cA, .int .u64 0, .string ByteArray.empty, .slice none 0 0])) (some (.agg #[.int .i64 2, .bool nO, .slice aO kO cO, .int .u64 0, .string ByteArray.empty, .slice none 0 0])) W) : Out5 W0 i j (.pointer (some ⟨x, 0, none⟩)) (.pointer (some ⟨y, 0, none⟩)) ((((((((((((W.setCell ⟨x, 0, none⟩ (.int .i64 2)).setCell ⟨x, 1, none⟩ (.bool nA)).setCell ⟨x, 2, none⟩ (.slice aA kA cA)).setCell ⟨x, 3, none⟩ (.int .u64 0)).setCell ⟨x, 4, none⟩ (.string ByteArray.empty)).setCell ⟨x, 5, none⟩ (.slice none 0 0)).setCell ⟨y, 0, none⟩ (.int .i64 2)).setCell ⟨y, 1, none⟩ (.bool nO)).setCell ⟨y, 2, none⟩ (.slice aO kO cO)).setCell ⟨y, 3, none⟩ (.int .u64 0)).setCell ⟨y, 4, none⟩ (.string ByteArray.empty)).setCell ⟨y, 5, none⟩ (.slice none 0 0)) := by
  have hx := (s.2.1 x rfl).2
  have hy := (s.2.2.1 y rfl).2
  have hne := s.2.2.2.1 x y rfl rfl
  have h1 := hx.put nA aA kA cA
  have h2 := hy.far6 (z := x) (Ne.symm hne) (.int .i64 2) (.bool nA) (.slice aA kA cA) (.int .u64 0) (.string ByteArray.empty) (.slice none 0 0)
  exact ⟨_, _, nA, nO, aA, aO, kA, cA, kO, cO, rfl, rfl, h1.far6 hne _ _ _ _ _ _, h2.put nO aO kO cO, (s.vs.put nA aA kA cA hx s.bA).put nO aO kO cO h2 s.bO⟩
theorem St5.fin6 {x y : Nat} (s : St5 W0 i j (some y) (some x) (some (.agg #[.int .i64 2, .bool nA, .slice aA kA cA, .int .u64 0, .string ByteArray.empty, .slice none 0 0])) (some (.agg #[.int .i64 2, .bool nO, .slice aO kO cO, .int .u64 0, .string ByteArray.empty, .slice none 0 0])) W) : Out5 W0 i j (.pointer (some ⟨x, 0, none⟩)) (.pointer (some ⟨y, 0, none⟩)) ((((((((((((W.setCell ⟨x, 0, none⟩ (.int .i64 2)).setCell ⟨x, 1, none⟩ (.bool nA)).setCell ⟨x, 2, none⟩ (.slice aA kA cA)).setCell ⟨x, 3, none⟩ (.int .u64 0)).setCell ⟨x, 4, none⟩ (.string ByteArray.empty)).setCell ⟨x, 5, none⟩ (.slice none 0 0)).setCell ⟨y, 0, none⟩ (.int .i64 2)).setCell ⟨y, 1, none⟩ (.bool nO)).setCell ⟨y, 2, none⟩ (.slice aO kO cO)).setCell ⟨y, 3, none⟩ (.int .u64 0)).setCell ⟨y, 4, none⟩ (.string ByteArray.empty)).setCell ⟨y, 5, none⟩ (.slice none 0 0)) := by
  have hx := (s.2.2.1 x rfl).2
  have hy := (s.2.1 y rfl).2
  have hne := Ne.symm (s.2.2.2.1 y x rfl rfl)
  have h1 := hx.put nA aA kA cA
  have h2 := hy.far6 (z := x) (Ne.symm hne) (.int .i64 2) (.bool nA) (.slice aA kA cA) (.int .u64 0) (.string ByteArray.empty) (.slice none 0 0)
  exact ⟨_, _, nA, nO, aA, aO, kA, cA, kO, cO, rfl, rfl, h1.far6 hne _ _ _ _ _ _, h2.put nO aO kO cO, (s.vs.put nA aA kA cA hx s.bO).put nO aO kO cO h2 s.bA⟩
end

theorem bits_lims (i j : Int) (hi : i.natAbs < 256 ^ 300) (hj : j.natAbs < 256 ^ 300) : i.natAbs < lim ∧ j.natAbs < lim ∧ (andI i j).natAbs < lim ∧ (orI i j).natAbs < lim ∧ (xorI i j).natAbs < lim ∧ (notI i).natAbs < lim ∧ (notI j).natAbs < lim ∧ (notI (andI i j)).natAbs < lim ∧ (i + j).natAbs < lim := by
  obtain ⟨k, hk⟩ : ∃ k, k = 300 := ⟨_, rfl⟩
  rw [← hk] at hi hj
  have e : 256 ^ k = 2 ^ (8 * k) := by rw [Nat.pow_mul]
  have h0 : 256 ^ (k + 1) ≤ lim := by unfold lim; exact Nat.pow_le_pow_right (by omega) (by rw [limW_eq]; omega)
  rw [Nat.pow_succ] at h0
  rw [e] at hi hj h0
  have h1 := abs_of i j (8 * k) hi hj
  have h2 : 1 ≤ 2 ^ (8 * k) := Nat.one_le_two_pow
  generalize 2 ^ (8 * k) = P at *
  unfold notI
  clear hk e
  obtain ⟨h3, h4, h5⟩ := h1
  generalize andI i j = a at *
  generalize orI i j = b at *
  generalize xorI i j = c at *
  refine ⟨?_, ?_, ?_, ?_, ?_, ?_, ?_, ?_, ?_⟩ <;> omega
theorem Va.carry {W w' : World} {v : Value} {m : Int} (h : Va W W.heap.size v m) (hb : Below W.heap.size W w') : Va w' w'.heap.size v m := (h.below hb).more hb.size
theorem Sp.carry {W w' : World} {v : Value} {m : Int} (h : Sp W W.heap.size v m) (hb : Below W.heap.size W w') : Sp w' w'.heap.size v m := (h.below hb).more hb.size
/-- what an operation of Vals leaves, at a world that stands behind w -/
def VaOut (m : Int) (w W : World) (e : Ending) (w' : World) : Prop :=
  ∃ (n : Bool) (a : Option Addr) (k c : Nat), e = .returned (.agg #[.int .i64 2, .bool n, .slice a k c, .int .u64 0, .string ByteArray.empty, .slice none 0 0]) ∧ Va w' w'.heap.size (.agg #[.int .i64 2, .bool n, .slice a k c, .int .u64 0, .string ByteArray.empty, .slice none 0 0]) m ∧ Below w.heap.size w w' ∧ Below W.heap.size W w'
theorem va_lift {f : FuncId} {args : Array Value} {m : Int} {w W : World} (hb : Below w.heap.size w W) (C : Calls Try.prog f args W (VaPost m W)) : Calls Try.prog f args W (VaOut m w W) := by
  refine C.mono ?_
  rintro e w' ⟨v, rfl, hv, hb2⟩
  obtain ⟨n, a, k, c, rfl⟩ := hv.parts
  exact ⟨n, a, k, c, rfl, hv, hb.trans (hb2.mono hb.size), hb2⟩
def SpOut (m : Int) (w W : World) (e : Ending) (w' : World) : Prop :=
  ∃ (n : Bool) (a : Option Addr) (k c : Nat), e = .returned (.agg #[.bool n, .slice a k c]) ∧ Sp w' w'.heap.size (.agg #[.bool n, .slice a k c]) m ∧ Below w.heap.size w w' ∧ Below W.heap.size W w'
theorem sp_lift {f : FuncId} {args : Array Value} {m : Int} {w W : World} (hb : Below w.heap.size w W) (C : Calls Try.prog f args W (SpPost m W)) : Calls Try.prog f args W (SpOut m w W) := by
  refine C.mono ?_
  rintro e w' ⟨v, rfl, hv, hb2⟩
  obtain ⟨n, a, k, c, rfl⟩ := hv.form
  exact ⟨n, a, k, c, rfl, hv, hb.trans (hb2.mono hb.size), hb2⟩
/-- a plain value, at a world that stands behind w -/
def RetOut (v : Value) (w W : World) (e : Ending) (w' : World) : Prop := e = .returned v ∧ Below w.heap.size w w' ∧ Below W.heap.size W w'
theorem ret_lift {f : FuncId} {args : Array Value} {v : Value} {w W : World} (hb : Below w.heap.size w W) (C : Calls Try.prog f args W (fun e w' => e = .returned v ∧ Below W.heap.size W w')) : Calls Try.prog f args W (RetOut v w W) :=
  C.mono (by rintro e w' ⟨rfl, hb2⟩; exact ⟨rfl, hb.trans (hb2.mono hb.size), hb2⟩)
end Go.Proofs.Ythnmkbdeoahiaaa

namespace Go.Proofs.Ythnmkbdeoahiaaa
open Go.RowKit Dig
set_option linter.unusedVariables false
set_option linter.unusedSimpArgs false
set_option maxRecDepth 100000

theorem is_sum {i j : Int} (v x : Value) (w : World) (hv : Va w w.heap.size v (andI i j + orI i j)) (hx : Sp w w.heap.size x (i + j)) (hl : (i + j).natAbs < lim) :
    Calls Try.prog 15 #[v, x] w fun e w' => e = .returned (.bool true) ∧ Below w.heap.size w w' := by
  rw [and_or_sum] at hv
  exact is_any _ v x w hv hx hl
theorem cmp_same {m m' : Int} (x y : Value) (w : World) (h1 : Va w w.heap.size x m) (h2 : Va w w.heap.size y m') (he : m = m') (hl : m'.natAbs < lim) :
    Calls Try.prog 19 #[x, y] w fun e w' => e = .returned (.tuple #[.int .i64 0, .bool true]) ∧ Below w.heap.size w w' := by
  subst he
  refine (implCmp_any m m x y w h1 h2 hl hl).mono ?_
  rintro e w' ⟨rfl, hb⟩
  exact ⟨by unfold cmpI; rw [if_neg (by omega), if_neg (by omega)], hb⟩
set_option maxHeartbeats 2400000 in
theorem lawBits (an bn : Bool) (a b : Value) (ms ns : List Nat) (w : World) (hms : ∀ x ∈ ms, x < 256) (hns : ∀ x ∈ ns, x < 256) (ha : Sl w w.heap.size a (ms.map bv)) (hb : Sl w w.heap.size b (ns.map bv)) (lm : ms.length ≤ maxLen) (ln : ns.length ≤ maxLen) :
    Calls Try.prog 5 #[.bool an, a, .bool bn, b] w fun e w' => e = .returned (.bool true) ∧ Below w.heap.size w w' := by
  simp only [maxLen] at lm ln
  obtain ⟨aa, ca, rfl, hca, _⟩ := id ha
  obtain ⟨ab, cb, rfl, hcb, _⟩ := id hb
  simp only [List.length_map] at ha hb hca hcb ⊢
  by_cases l1 : ms.length ≤ 2147483647
  · by_cases l2 : ns.length ≤ 2147483647
    · have WA := Lib.hid (lawsWhole_any an ms _ 300 w hms ha l1 (by omega))
      have WB : Hid (∀ W, Below w.heap.size w W → Calls Try.prog 6 #[.bool bn, .slice ab ns.length cb, .int .i64 300] W (PairPost 300 W)) := Lib.hid (fun W h => lawsWhole_any bn ns _ 300 W hns ((hb.below h).more h.size) l2 (by omega))
      clear ha hb hms hns
      go_enter Try.func5, Try.ntmps5
      go_wp2_with fail
      refine WA.out.mono ?_
      rintro e w1 ⟨i, n1, n2, a1, a2, k1, c1, k2, c2, hi, rfl, hx, hp, hb1⟩
      obtain ⟨hA, hBA⟩ := Int2.new hx hp
      have HA := Lib.hid hA; have HBA := Lib.hid hBA; have HB1 := Lib.hid hb1; have HI := Lib.hid hi
      have WB1 := Lib.hid (WB.out _ (hb1.trans (hBA.mono hb1.size)))
      clear hx hp hb1 hi hA hBA WB WA
      go_wp2_with fail
      refine WB1.out.mono ?_
      rintro e w2 ⟨j, n3, n4, a3, a4, k3, c3, k4, c4, hj, rfl, hy, hq, hb2⟩
      obtain ⟨hB, hBB⟩ := Int2.new hy hq
      have hA2 := (HA.out.below hb2).below hBB
      have hlt : w1.heap.size + 1 < w2.heap.size := (HA.out.2.1.below hb2 HA.out.2.1.lt).lt
      have hbw : Below w.heap.size w _ := ((HB1.out.trans (HBA.out.mono HB1.out.size)).trans (hb2.mono ((HB1.out.trans (HBA.out.mono HB1.out.size)).size))).trans (hBB.mono ((HB1.out.trans (HBA.out.mono HB1.out.size)).trans (hb2.mono ((HB1.out.trans (HBA.out.mono HB1.out.size)).size))).size)
      have hlB := hB.2.1.lt
      have HA := Lib.hid hA2; have HB := Lib.hid hB; have HBW := Lib.hid hbw; have HJ := Lib.hid hj
      clear hA2 hB hbw hBB hb2 hy hq hj HBA HB1 WB1
      go_wp2_with fail
      generalize hWb : (w2.alloc (.cells #[.bool n3, .slice a3 k3 c3] 24)).alloc (.cells #[.int .i64 2, .bool n4, .slice a4 k4 c4, .int .u64 0, .string ByteArray.empty, .slice none 0 0] 28) = Wb at *
      clear hWb
      generalize w1.heap.size = bX at *
      generalize w2.heap.size = bY at *
      obtain ⟨LI, LJ, LA, LO, LX, LNI, LNJ, LNA, LS⟩ := bits_lims i j HI.out HJ.out
      have KEEP : Hid (∀ W, Below Wb.heap.size Wb W → _ ∧ _) := Lib.hid (fun W h => ⟨(HA.out.below h).cells.2, (HB.out.below h).cells.2⟩)
      have ANDC : Hid (∀ oA oO W, St5 Wb i j oA oO none none W → Calls Try.prog 13 #[.agg #[.int .i64 2, .bool n2, .slice a2 k2 c2, .int .u64 0, .string ByteArray.empty, .slice none 0 0], .agg #[.int .i64 2, .bool n4, .slice a4 k4 c4, .int .u64 0, .string ByteArray.empty, .slice none 0 0]] W fun e w' => ∃ n a k c, e = .returned (.agg #[.int .i64 2, .bool n, .slice a k c, .int .u64 0, .string ByteArray.empty, .slice none 0 0]) ∧ St5 Wb i j oA oO (some (.agg #[.int .i64 2, .bool n, .slice a k c, .int .u64 0, .string ByteArray.empty, .slice none 0 0])) none w') := Lib.hid (by
        intro oA oO W st
        refine (implAnd_any i j _ _ W (HA.out.below st.1).2.2.2 (HB.out.below st.1).2.2.2 LI LJ LA).mono ?_
        rintro e w' ⟨v, rfl, hv, hb⟩
        obtain ⟨n, a, k, c, rfl⟩ := hv.parts
        have h := st.next hb
        exact ⟨n, a, k, c, rfl, h.1, h.2.1, h.2.2.1, h.2.2.2.1, (fun v hv2 => by injection hv2 with hv2; subst hv2; exact hv), h.2.2.2.2.2⟩)
      have ORC : Hid (∀ oA oO rA W, St5 Wb i j oA oO rA none W → Calls Try.prog 14 #[.agg #[.int .i64 2, .bool n2, .slice a2 k2 c2, .int .u64 0, .string ByteArray.empty, .slice none 0 0], .agg #[.int .i64 2, .bool n4, .slice a4 k4 c4, .int .u64 0, .string ByteArray.empty, .slice none 0 0]] W fun e w' => ∃ n a k c, e = .returned (.agg #[.int .i64 2, .bool n, .slice a k c, .int .u64 0, .string ByteArray.empty, .slice none 0 0]) ∧ St5 Wb i j oA oO rA (some (.agg #[.int .i64 2, .bool n, .slice a k c, .int .u64 0, .string ByteArray.empty, .slice none 0 0])) w') := Lib.hid (by
        intro oA oO rA W st
        refine (implOr_any i j _ _ W (HA.out.below st.1).2.2.2 (HB.out.below st.1).2.2.2 LI LJ LO).mono ?_
        rintro e w' ⟨v, rfl, hv, hb⟩
        obtain ⟨n, a, k, c, rfl⟩ := hv.parts
        have h := st.next hb
        exact ⟨n, a, k, c, rfl, h.1, h.2.1, h.2.2.1, h.2.2.2.1, h.2.2.2.2.1, (fun v hv2 => by injection hv2 with hv2; subst hv2; exact hv)⟩)
      go_upto_region 1 with fail
      go_cut [13, 14] from 40 to 45 (fun u v wx => Out5 Wb i j u v wx)
      case first =>
        have HB0 : Hid (Below Wb.heap.size Wb Wb) := Below.refl _ _
        have HS : Hid (St5 Wb i j none none none none Wb.drew) := Lib.hid ⟨(Below.refl _ _).drew, by simp, by simp, by simp, by simp, by simp⟩
        obtain ⟨⟨p0, p1, p2, p3, p4, p5⟩, ⟨r0, r1, r2, r3, r4, r5⟩⟩ := KEEP.out _ HS.out.b
        go_region_held3 (fun w' => (w'.cell? ⟨bX + 1, 0, none⟩ = some (.int .i64 2) ∧ w'.cell? ⟨bX + 1, 1, none⟩ = some (.bool n2) ∧ w'.cell? ⟨bX + 1, 2, none⟩ = some (.slice a2 k2 c2) ∧ w'.cell? ⟨bX + 1, 3, none⟩ = some (.int .u64 0) ∧ w'.cell? ⟨bX + 1, 4, none⟩ = some (.string ByteArray.empty) ∧ w'.cell? ⟨bX + 1, 5, none⟩ = some (.slice none 0 0)) ∧ (w'.cell? ⟨bY + 1, 0, none⟩ = some (.int .i64 2) ∧ w'.cell? ⟨bY + 1, 1, none⟩ = some (.bool n4) ∧ w'.cell? ⟨bY + 1, 2, none⟩ = some (.slice a4 k4 c4) ∧ w'.cell? ⟨bY + 1, 3, none⟩ = some (.int .u64 0) ∧ w'.cell? ⟨bY + 1, 4, none⟩ = some (.string ByteArray.empty) ∧ w'.cell? ⟨bY + 1, 5, none⟩ = some (.slice none 0 0))) (first | (refine ⟨⟨?_, ?_, ?_, ?_, ?_, ?_⟩, ⟨?_, ?_, ?_, ?_, ?_, ?_⟩⟩ <;> with_reducible assumption) | with_reducible exact KEEP.out _ (Below.drew (below_al HB0.out _)) | with_reducible exact KEEP.out _ (Below.drew (below_al (below_al HB0.out _) _)) | with_reducible exact KEEP.out _ HS.out.b | with_reducible exact KEEP.out _ (below_al HS.out.b _) | with_reducible exact KEEP.out _ (below_al (below_al HS.out.b _) _) | with_reducible exact KEEP.out _ (below_s6 HS.out.b HS.out.bA _ _ _ _ _ _) | with_reducible exact KEEP.out _ (below_s6 HS.out.b HS.out.bO _ _ _ _ _ _) | with_reducible exact KEEP.out _ (below_s6 (below_s6 HS.out.b HS.out.bA _ _ _ _ _ _) HS.out.bO _ _ _ _ _ _) | with_reducible exact KEEP.out _ (below_s6 (below_s6 HS.out.b HS.out.bO _ _ _ _ _ _) HS.out.bA _ _ _ _ _ _) | with_reducible exact KEEP.out _ (below_s6 (below_al HS.out.b _) HS.out.bA _ _ _ _ _ _) | with_reducible exact KEEP.out _ (below_s6 (below_al HS.out.b _) HS.out.bO _ _ _ _ _ _) | with_reducible exact KEEP.out _ (below_al (below_s6 HS.out.b HS.out.bA _ _ _ _ _ _) _) | with_reducible exact KEEP.out _ (below_al (below_s6 HS.out.b HS.out.bO _ _ _ _ _ _) _) | with_reducible exact KEEP.out _ (below_s6 (below_s6 (below_al HS.out.b _) HS.out.bA _ _ _ _ _ _) HS.out.b.size _ _ _ _ _ _)) (first
          | (go_at_call 13; (with_reducible refine (ANDC.out _ _ _ (by first | exact HS.out | exact HS.out.allocAd | exact HS.out.alloc2d | exact HS.out.allocA | exact HS.out.alloc2 | exact HS.out.allocO)).mono ?_); rintro e w4 ⟨nA, aA, kA, cA, rfl, hs⟩; have HS := Lib.hid hs; have hz := hs.1.size; (try have hza := (hs.2.1 _ rfl).2.lt); (try have hzb := (hs.2.2.1 _ rfl).2.lt); (try have hzc := hs.2.2.2.1 _ _ rfl rfl); (try have hzd := Ne.symm (hs.2.2.2.1 _ _ rfl rfl)); obtain ⟨⟨p0, p1, p2, p3, p4, p5⟩, ⟨r0, r1, r2, r3, r4, r5⟩⟩ := KEEP.out _ hs.1; (try obtain ⟨⟨a0, a1_, a2_, a3_, a4_, a5_⟩, fa0, fa1, fa2, fa3, fa4, fa5⟩ := zero_cells (hs.2.1 _ rfl).2); (try obtain ⟨⟨o0, o1_, o2_, o3_, o4_, o5_⟩, fo0, fo1, fo2, fo3, fo4, fo5⟩ := zero_cells (hs.2.2.1 _ rfl).2); clear hs)
          | (go_at_call 14; (with_reducible refine (ORC.out _ _ _ _ (by first | exact HS.out | exact HS.out.allocAd | exact HS.out.alloc2d | exact HS.out.allocA | exact HS.out.alloc2 | exact HS.out.allocO)).mono ?_); rintro e w5 ⟨nO, aO, kO, cO, rfl, hs⟩; have HS := Lib.hid hs; have hz := hs.1.size; (try have hza := (hs.2.1 _ rfl).2.lt); (try have hzb := (hs.2.2.1 _ rfl).2.lt); (try have hzc := hs.2.2.2.1 _ _ rfl rfl); (try have hzd := Ne.symm (hs.2.2.2.1 _ _ rfl rfl)); obtain ⟨⟨p0, p1, p2, p3, p4, p5⟩, ⟨r0, r1, r2, r3, r4, r5⟩⟩ := KEEP.out _ hs.1; (try obtain ⟨⟨a0, a1_, a2_, a3_, a4_, a5_⟩, fa0, fa1, fa2, fa3, fa4, fa5⟩ := zero_cells (hs.2.1 _ rfl).2); (try obtain ⟨⟨o0, o1_, o2_, o3_, o4_, o5_⟩, fo0, fo1, fo2, fo3, fo4, fo5⟩ := zero_cells (hs.2.2.1 _ rfl).2); clear hs))
        all_goals (go_wp2_with fail; go_meet; first | with_reducible exact HS.out.fin1 | with_reducible exact HS.out.fin2 | with_reducible exact HS.out.fin3 | with_reducible exact HS.out.fin4 | with_reducible exact HS.out.fin5 | with_reducible exact HS.out.fin6)
      case rest =>
        obtain ⟨wB, rfl⟩ : ∃ wB, wB = wc := ⟨_, rfl⟩
        obtain ⟨bA, bO, nA, nO, aA, aO, kA, cA, kO, cO, rfl, rfl, hkA, hkO, hb5, hvA, hvO⟩ := hcut
        have HX := (HA.out.below hb5)
        have HY := (HB.out.below hb5)
        have HW : Hid (Below w.heap.size w wB) := Lib.hid (HBW.out.trans (hb5.mono HBW.out.size))
        have VA := Lib.hid hvA; have VO := Lib.hid hvO; have VP := Lib.hid HX.2.2.2; have VQ := Lib.hid HY.2.2.2; have SX := Lib.hid HX.2.2.1; have SY := Lib.hid HY.2.2.1
        have KEEP6 : Hid (∀ W, Below wB.heap.size wB W → _ ∧ _ ∧ _ ∧ _ ∧ _ ∧ _) := Lib.hid (fun W h => ⟨val_cells (hkA.below h hkA.lt), val_cells (hkO.below h hkO.lt), (HX.below h).cells.1, (HY.below h).cells.1, (HX.below h).cells.2, (HY.below h).cells.2⟩)
        have LI := Lib.hid LI; have LJ := Lib.hid LJ; have LA := Lib.hid LA; have LO := Lib.hid LO; have LX := Lib.hid LX; have LNI := Lib.hid LNI; have LNJ := Lib.hid LNJ; have LNA := Lib.hid LNA; have LS := Lib.hid LS
        have LSA : Hid ((andI i j + orI i j).natAbs < lim) := Lib.hid (by rw [and_or_sum]; exact LS.out)
        have LSO : Hid ((orI i j - andI i j).natAbs < lim) := Lib.hid (by rw [or_sub_and]; exact LX.out)
        have LNO : Hid ((orI (notI i) (notI j)).natAbs < lim) := Lib.hid (by rw [← not_and_or]; exact LNA.out)
        clear KEEP ANDC ORC hb5 hvA hvO HX HY hkA hkO HA HB HBW
        obtain ⟨⟨A0, A1, A2, A3, A4, A5⟩, ⟨O0, O1, O2, O3, O4, O5⟩, ⟨X0, X1⟩, ⟨Y0, Y1⟩, ⟨p0, p1, p2, p3, p4, p5⟩, ⟨r0, r1, r2, r3, r4, r5⟩⟩ := KEEP6.out _ (Below.refl _ _)
        go_upto_region 1 with fail
        go_cut [53] from 40 to 53 (fun sv wx => sv = .bool false ∧ Below wB.heap.size wB wx)
        case first =>
          have HB : Hid (Below wB.heap.size wB wB.drew) := Lib.hid (Below.refl _ _).drew
          have VA := Lib.hid (VA.out.carry HB.out)
          have VO := Lib.hid (VO.out.carry HB.out)
          have SX := Lib.hid (SX.out.carry HB.out)
          have SY := Lib.hid (SY.out.carry HB.out)
          go_region_held3 (fun w' => (w'.cell? ⟨bA, 0, none⟩ = some (.int .i64 2) ∧ w'.cell? ⟨bA, 1, none⟩ = some (.bool nA) ∧ w'.cell? ⟨bA, 2, none⟩ = some (.slice aA kA cA) ∧ w'.cell? ⟨bA, 3, none⟩ = some (.int .u64 0) ∧ w'.cell? ⟨bA, 4, none⟩ = some (.string ByteArray.empty) ∧ w'.cell? ⟨bA, 5, none⟩ = some (.slice none 0 0)) ∧ (w'.cell? ⟨bO, 0, none⟩ = some (.int .i64 2) ∧ w'.cell? ⟨bO, 1, none⟩ = some (.bool nO) ∧ w'.cell? ⟨bO, 2, none⟩ = some (.slice aO kO cO) ∧ w'.cell? ⟨bO, 3, none⟩ = some (.int .u64 0) ∧ w'.cell? ⟨bO, 4, none⟩ = some (.string ByteArray.empty) ∧ w'.cell? ⟨bO, 5, none⟩ = some (.slice none 0 0)) ∧ (w'.cell? ⟨bX, 0, none⟩ = some (.bool n1) ∧ w'.cell? ⟨bX, 1, none⟩ = some (.slice a1 k1 c1)) ∧ (w'.cell? ⟨bY, 0, none⟩ = some (.bool n3) ∧ w'.cell? ⟨bY, 1, none⟩ = some (.slice a3 k3 c3))) (refine ⟨⟨?_, ?_, ?_, ?_, ?_, ?_⟩, ⟨?_, ?_, ?_, ?_, ?_, ?_⟩, ⟨?_, ?_⟩, ⟨?_, ?_⟩⟩ <;> first | with_reducible assumption | assumption) (first
            | (go_at_call 16; (with_reducible refine (va_lift HB.out (implAdd_any _ _ _ _ _ VA.out VO.out LA.out LO.out LSA.out)).mono ?_); rintro e w4 ⟨vs_1, vs_2, vs_3, vs_4, rfl, hv, hbw, hbb⟩; (try have VA := Lib.hid (VA.out.carry hbb)); (try have VO := Lib.hid (VO.out.carry hbb)); (try have VX := Lib.hid (VX.out.carry hbb)); (try have VP := Lib.hid (VP.out.carry hbb)); (try have VQ := Lib.hid (VQ.out.carry hbb)); (try have VS := Lib.hid (VS.out.carry hbb)); (try have SX := Lib.hid (SX.out.carry hbb)); (try have SY := Lib.hid (SY.out.carry hbb)); (try have SS := Lib.hid (SS.out.carry hbb)); (try have NA := Lib.hid (NA.out.carry hbb)); (try have NP := Lib.hid (NP.out.carry hbb)); (try have NQ := Lib.hid (NQ.out.carry hbb)); (try have NO := Lib.hid (NO.out.carry hbb)); have VS := Lib.hid hv; clear hv; have HB := Lib.hid hbw; obtain ⟨⟨A0, A1, A2, A3, A4, A5⟩, ⟨O0, O1, O2, O3, O4, O5⟩, ⟨X0, X1⟩, ⟨Y0, Y1⟩, ⟨p0, p1, p2, p3, p4, p5⟩, ⟨r0, r1, r2, r3, r4, r5⟩⟩ := KEEP6.out _ hbw; clear hbw hbb)
            | (go_at_call 17; (with_reducible refine (sp_lift HB.out (specAdd_any _ _ _ _ _ SX.out SY.out LI.out LJ.out)).mono ?_); rintro e w4 ⟨ss_1, ss_2, ss_3, ss_4, rfl, hv, hbw, hbb⟩; (try have VA := Lib.hid (VA.out.carry hbb)); (try have VO := Lib.hid (VO.out.carry hbb)); (try have VX := Lib.hid (VX.out.carry hbb)); (try have VP := Lib.hid (VP.out.carry hbb)); (try have VQ := Lib.hid (VQ.out.carry hbb)); (try have VS := Lib.hid (VS.out.carry hbb)); (try have SX := Lib.hid (SX.out.carry hbb)); (try have SY := Lib.hid (SY.out.carry hbb)); (try have SS := Lib.hid (SS.out.carry hbb)); (try have NA := Lib.hid (NA.out.carry hbb)); (try have NP := Lib.hid (NP.out.carry hbb)); (try have NQ := Lib.hid (NQ.out.carry hbb)); (try have NO := Lib.hid (NO.out.carry hbb)); have SS := Lib.hid hv; clear hv; have HB := Lib.hid hbw; obtain ⟨⟨A0, A1, A2, A3, A4, A5⟩, ⟨O0, O1, O2, O3, O4, O5⟩, ⟨X0, X1⟩, ⟨Y0, Y1⟩, ⟨p0, p1, p2, p3, p4, p5⟩, ⟨r0, r1, r2, r3, r4, r5⟩⟩ := KEEP6.out _ hbw; clear hbw hbb)
            | (go_at_call 15; (with_reducible refine (ret_lift HB.out (is_sum _ _ _ VS.out SS.out LS.out)).mono ?_); rintro e w4 ⟨rfl, hbw, hbb⟩; (try have VA := Lib.hid (VA.out.carry hbb)); (try have VO := Lib.hid (VO.out.carry hbb)); (try have VX := Lib.hid (VX.out.carry hbb)); (try have VP := Lib.hid (VP.out.carry hbb)); (try have VQ := Lib.hid (VQ.out.carry hbb)); (try have VS := Lib.hid (VS.out.carry hbb)); (try have SX := Lib.hid (SX.out.carry hbb)); (try have SY := Lib.hid (SY.out.carry hbb)); (try have SS := Lib.hid (SS.out.carry hbb)); (try have NA := Lib.hid (NA.out.carry hbb)); (try have NP := Lib.hid (NP.out.carry hbb)); (try have NQ := Lib.hid (NQ.out.carry hbb)); (try have NO := Lib.hid (NO.out.carry hbb)); skip; have HB := Lib.hid hbw; obtain ⟨⟨A0, A1, A2, A3, A4, A5⟩, ⟨O0, O1, O2, O3, O4, O5⟩, ⟨X0, X1⟩, ⟨Y0, Y1⟩, ⟨p0, p1, p2, p3, p4, p5⟩, ⟨r0, r1, r2, r3, r4, r5⟩⟩ := KEEP6.out _ hbw; clear hbw hbb))
          all_goals (go_wp2_with fail; go_meet; exact ⟨rfl, HB.out⟩)
        case rest =>
        obtain ⟨rfl, hb6⟩ := hcut
        have VA := Lib.hid (VA.out.carry hb6)
        have VO := Lib.hid (VO.out.carry hb6)
        have VP := Lib.hid (VP.out.carry hb6)
        have VQ := Lib.hid (VQ.out.carry hb6)
        have HB := Lib.hid hb6
        obtain ⟨⟨A0, A1, A2, A3, A4, A5⟩, ⟨O0, O1, O2, O3, O4, O5⟩, ⟨X0, X1⟩, ⟨Y0, Y1⟩, ⟨p0, p1, p2, p3, p4, p5⟩, ⟨r0, r1, r2, r3, r4, r5⟩⟩ := KEEP6.out _ hb6
        clear hb6 SX SY
        go_wp2_with fail
        refine (va_lift HB.out (implXor_any _ _ _ _ _ VP.out VQ.out LI.out LJ.out LX.out)).mono ?_
        rintro e w8 ⟨nR, aR, kR, cR, rfl, hv, hbw, hbb⟩
        have VA := Lib.hid (VA.out.carry (below_al hbb (.cells #[.int .i64 2, .bool nR, .slice aR kR cR, .int .u64 0, .string ByteArray.empty, .slice none 0 0] 28)))
        have VO := Lib.hid (VO.out.carry (below_al hbb (.cells #[.int .i64 2, .bool nR, .slice aR kR cR, .int .u64 0, .string ByteArray.empty, .slice none 0 0] 28)))
        have VP := Lib.hid (VP.out.carry (below_al hbb (.cells #[.int .i64 2, .bool nR, .slice aR kR cR, .int .u64 0, .string ByteArray.empty, .slice none 0 0] 28)))
        have VQ := Lib.hid (VQ.out.carry (below_al hbb (.cells #[.int .i64 2, .bool nR, .slice aR kR cR, .int .u64 0, .string ByteArray.empty, .slice none 0 0] 28)))
        have VX := Lib.hid (hv.carry (St5.one w8 (.cells #[.int .i64 2, .bool nR, .slice aR kR cR, .int .u64 0, .string ByteArray.empty, .slice none 0 0] 28)))
        have HB := Lib.hid (below_al hbw (.cells #[.int .i64 2, .bool nR, .slice aR kR cR, .int .u64 0, .string ByteArray.empty, .slice none 0 0] 28))
        have HKR := Lib.hid (Blk.new w8 28 [.int .i64 2, .bool nR, .slice aR kR cR, .int .u64 0, .string ByteArray.empty, .slice none 0 0])
        obtain ⟨⟨A0, A1, A2, A3, A4, A5⟩, ⟨O0, O1, O2, O3, O4, O5⟩, ⟨X0, X1⟩, ⟨Y0, Y1⟩, ⟨p0, p1, p2, p3, p4, p5⟩, ⟨r0, r1, r2, r3, r4, r5⟩⟩ := KEEP6.out _ hbw
        clear hv hbw hbb
        go_wp2_with fail
        generalize hwR : w8.alloc (.cells #[.int .i64 2, .bool nR, .slice aR kR cR, .int .u64 0, .string ByteArray.empty, .slice none 0 0] 28) = wR at *
        clear hwR
        generalize w8.heap.size = bR at *
        have KEEP9 : Hid (∀ W, Below wR.heap.size wR W → _ ∧ _ ∧ _ ∧ _ ∧ _ ∧ _ ∧ _) := Lib.hid (fun W h => ⟨val_cells (HKR.out.below h HKR.out.lt), KEEP6.out _ (HB.out.trans (h.mono HB.out.size))⟩)
        have HW2 : Hid (Below w.heap.size w wR) := Lib.hid (HW.out.trans (HB.out.mono HW.out.size))
        clear HKR HB KEEP6 HW
        obtain ⟨⟨R0, R1, R2, R3, R4, R5⟩, ⟨A0, A1, A2, A3, A4, A5⟩, ⟨O0, O1, O2, O3, O4, O5⟩, ⟨X0, X1⟩, ⟨Y0, Y1⟩, ⟨p0, p1, p2, p3, p4, p5⟩, ⟨r0, r1, r2, r3, r4, r5⟩⟩ := KEEP9.out _ (Below.refl _ _)
        go_upto_region 1 with fail
        go_cut [16, 17] from 40 to 64 (fun u v wx => u = .int .i64 0 ∧ v = .bool true ∧ Below wR.heap.size wR wx)
        case first =>
          have HB : Hid (Below wR.heap.size wR wR.drew) := Lib.hid (Below.refl _ _).drew
          have VA := Lib.hid (VA.out.carry HB.out)
          have VO := Lib.hid (VO.out.carry HB.out)
          have VX := Lib.hid (VX.out.carry HB.out)
          go_region_held3 (fun w' => (w'.cell? ⟨bO, 0, none⟩ = some (.int .i64 2) ∧ w'.cell? ⟨bO, 1, none⟩ = some (.bool nO) ∧ w'.cell? ⟨bO, 2, none⟩ = some (.slice aO kO cO) ∧ w'.cell? ⟨bO, 3, none⟩ = some (.int .u64 0) ∧ w'.cell? ⟨bO, 4, none⟩ = some (.string ByteArray.empty) ∧ w'.cell? ⟨bO, 5, none⟩ = some (.slice none 0 0)) ∧ (w'.cell? ⟨bA, 0, none⟩ = some (.int .i64 2) ∧ w'.cell? ⟨bA, 1, none⟩ = some (.bool nA) ∧ w'.cell? ⟨bA, 2, none⟩ = some (.slice aA kA cA) ∧ w'.cell? ⟨bA, 3, none⟩ = some (.int .u64 0) ∧ w'.cell? ⟨bA, 4, none⟩ = some (.string ByteArray.empty) ∧ w'.cell? ⟨bA, 5, none⟩ = some (.slice none 0 0)) ∧ (w'.cell? ⟨bR, 0, none⟩ = some (.int .i64 2) ∧ w'.cell? ⟨bR, 1, none⟩ = some (.bool nR) ∧ w'.cell? ⟨bR, 2, none⟩ = some (.slice aR kR cR) ∧ w'.cell? ⟨bR, 3, none⟩ = some (.int .u64 0) ∧ w'.cell? ⟨bR, 4, none⟩ = some (.string ByteArray.empty) ∧ w'.cell? ⟨bR, 5, none⟩ = some (.slice none 0 0))) (refine ⟨⟨?_, ?_, ?_, ?_, ?_, ?_⟩, ⟨?_, ?_, ?_, ?_, ?_, ?_⟩, ⟨?_, ?_, ?_, ?_, ?_, ?_⟩⟩ <;> first | with_reducible assumption | assumption) (first
            | (go_at_call 20; (with_reducible refine (va_lift HB.out (implSub_any _ _ _ _ _ VO.out VA.out LO.out LA.out LSO.out)).mono ?_); rintro e w4 ⟨vs_1, vs_2, vs_3, vs_4, rfl, hv, hbw, hbb⟩; (try have VA := Lib.hid (VA.out.carry hbb)); (try have VO := Lib.hid (VO.out.carry hbb)); (try have VX := Lib.hid (VX.out.carry hbb)); (try have VP := Lib.hid (VP.out.carry hbb)); (try have VQ := Lib.hid (VQ.out.carry hbb)); (try have VS := Lib.hid (VS.out.carry hbb)); (try have SX := Lib.hid (SX.out.carry hbb)); (try have SY := Lib.hid (SY.out.carry hbb)); (try have SS := Lib.hid (SS.out.carry hbb)); (try have NA := Lib.hid (NA.out.carry hbb)); (try have NP := Lib.hid (NP.out.carry hbb)); (try have NQ := Lib.hid (NQ.out.carry hbb)); (try have NO := Lib.hid (NO.out.carry hbb)); have VS := Lib.hid hv; clear hv; have HB := Lib.hid hbw; obtain ⟨⟨R0, R1, R2, R3, R4, R5⟩, ⟨A0, A1, A2, A3, A4, A5⟩, ⟨O0, O1, O2, O3, O4, O5⟩, ⟨X0, X1⟩, ⟨Y0, Y1⟩, ⟨p0, p1, p2, p3, p4, p5⟩, ⟨r0, r1, r2, r3, r4, r5⟩⟩ := KEEP9.out _ hbw; clear hbw hbb)
            | (go_at_call 19; (with_reducible refine (ret_lift HB.out (cmp_same _ _ _ VS.out VX.out (or_sub_and i j) LX.out)).mono ?_); rintro e w4 ⟨rfl, hbw, hbb⟩; (try have VA := Lib.hid (VA.out.carry hbb)); (try have VO := Lib.hid (VO.out.carry hbb)); (try have VX := Lib.hid (VX.out.carry hbb)); (try have VP := Lib.hid (VP.out.carry hbb)); (try have VQ := Lib.hid (VQ.out.carry hbb)); (try have VS := Lib.hid (VS.out.carry hbb)); (try have SX := Lib.hid (SX.out.carry hbb)); (try have SY := Lib.hid (SY.out.carry hbb)); (try have SS := Lib.hid (SS.out.carry hbb)); (try have NA := Lib.hid (NA.out.carry hbb)); (try have NP := Lib.hid (NP.out.carry hbb)); (try have NQ := Lib.hid (NQ.out.carry hbb)); (try have NO := Lib.hid (NO.out.carry hbb)); skip; have HB := Lib.hid hbw; obtain ⟨⟨R0, R1, R2, R3, R4, R5⟩, ⟨A0, A1, A2, A3, A4, A5⟩, ⟨O0, O1, O2, O3, O4, O5⟩, ⟨X0, X1⟩, ⟨Y0, Y1⟩, ⟨p0, p1, p2, p3, p4, p5⟩, ⟨r0, r1, r2, r3, r4, r5⟩⟩ := KEEP9.out _ hbw; clear hbw hbb))
          all_goals (go_wp2_with fail; go_meet; exact ⟨rfl, rfl, HB.out⟩)
        case rest =>
        obtain ⟨w9, rfl⟩ : ∃ w9, w9 = wc := ⟨_, rfl⟩
        obtain ⟨rfl, rfl, hb9⟩ := hcut
        have VA := Lib.hid (VA.out.carry hb9)
        have VP := Lib.hid (VP.out.carry hb9)
        have VQ := Lib.hid (VQ.out.carry hb9)
        have KEEP10 : Hid (∀ W, Below w9.heap.size w9 W → _ ∧ _ ∧ _ ∧ _ ∧ _ ∧ _ ∧ _) := Lib.hid (fun W h => KEEP9.out _ (hb9.trans (h.mono hb9.size)))
        have HW3 : Hid (Below w.heap.size w w9) := Lib.hid (HW2.out.trans (hb9.mono HW2.out.size))
        clear hb9 KEEP9 HW2 VO VX
        obtain ⟨⟨R0, R1, R2, R3, R4, R5⟩, ⟨A0, A1, A2, A3, A4, A5⟩, ⟨O0, O1, O2, O3, O4, O5⟩, ⟨X0, X1⟩, ⟨Y0, Y1⟩, ⟨p0, p1, p2, p3, p4, p5⟩, ⟨r0, r1, r2, r3, r4, r5⟩⟩ := KEEP10.out _ (Below.refl _ _)
        go_upto_region 1 with fail
        go_cut [18, 19] from 40 to 75 (fun u v wx => u = .int .i64 0 ∧ v = .bool true ∧ Below w9.heap.size w9 wx)
        case first =>
          have HB : Hid (Below w9.heap.size w9 w9.drew) := Lib.hid (Below.refl _ _).drew
          have VA := Lib.hid (VA.out.carry HB.out)
          have VP := Lib.hid (VP.out.carry HB.out)
          have VQ := Lib.hid (VQ.out.carry HB.out)
          go_region_held3 (fun w' => (w'.cell? ⟨bA, 0, none⟩ = some (.int .i64 2) ∧ w'.cell? ⟨bA, 1, none⟩ = some (.bool nA) ∧ w'.cell? ⟨bA, 2, none⟩ = some (.slice aA kA cA) ∧ w'.cell? ⟨bA, 3, none⟩ = some (.int .u64 0) ∧ w'.cell? ⟨bA, 4, none⟩ = some (.string ByteArray.empty) ∧ w'.cell? ⟨bA, 5, none⟩ = some (.slice none 0 0)) ∧ (w'.cell? ⟨bX + 1, 0, none⟩ = some (.int .i64 2) ∧ w'.cell? ⟨bX + 1, 1, none⟩ = some (.bool n2) ∧ w'.cell? ⟨bX + 1, 2, none⟩ = some (.slice a2 k2 c2) ∧ w'.cell? ⟨bX + 1, 3, none⟩ = some (.int .u64 0) ∧ w'.cell? ⟨bX + 1, 4, none⟩ = some (.string ByteArray.empty) ∧ w'.cell? ⟨bX + 1, 5, none⟩ = some (.slice none 0 0)) ∧ (w'.cell? ⟨bY + 1, 0, none⟩ = some (.int .i64 2) ∧ w'.cell? ⟨bY + 1, 1, none⟩ = some (.bool n4) ∧ w'.cell? ⟨bY + 1, 2, none⟩ = some (.slice a4 k4 c4) ∧ w'.cell? ⟨bY + 1, 3, none⟩ = some (.int .u64 0) ∧ w'.cell? ⟨bY + 1, 4, none⟩ = some (.string ByteArray.empty) ∧ w'.cell? ⟨bY + 1, 5, none⟩ = some (.slice none 0 0))) (refine ⟨⟨?_, ?_, ?_, ?_, ?_, ?_⟩, ⟨?_, ?_, ?_, ?_, ?_, ?_⟩, ⟨?_, ?_, ?_, ?_, ?_, ?_⟩⟩ <;> first | with_reducible assumption | assumption) (first
            | (go_at_call 21; (with_reducible refine (va_lift HB.out (implNot_any _ _ _ VA.out LA.out LNA.out)).mono ?_); rintro e w4 ⟨na_1, na_2, na_3, na_4, rfl, hv, hbw, hbb⟩; (try have VA := Lib.hid (VA.out.carry hbb)); (try have VO := Lib.hid (VO.out.carry hbb)); (try have VX := Lib.hid (VX.out.carry hbb)); (try have VP := Lib.hid (VP.out.carry hbb)); (try have VQ := Lib.hid (VQ.out.carry hbb)); (try have VS := Lib.hid (VS.out.carry hbb)); (try have SX := Lib.hid (SX.out.carry hbb)); (try have SY := Lib.hid (SY.out.carry hbb)); (try have SS := Lib.hid (SS.out.carry hbb)); (try have NA := Lib.hid (NA.out.carry hbb)); (try have NP := Lib.hid (NP.out.carry hbb)); (try have NQ := Lib.hid (NQ.out.carry hbb)); (try have NO := Lib.hid (NO.out.carry hbb)); have NA := Lib.hid hv; clear hv; have HB := Lib.hid hbw; obtain ⟨⟨R0, R1, R2, R3, R4, R5⟩, ⟨A0, A1, A2, A3, A4, A5⟩, ⟨O0, O1, O2, O3, O4, O5⟩, ⟨X0, X1⟩, ⟨Y0, Y1⟩, ⟨p0, p1, p2, p3, p4, p5⟩, ⟨r0, r1, r2, r3, r4, r5⟩⟩ := KEEP10.out _ hbw; clear hbw hbb)
            | (go_at_call 21; (with_reducible refine (va_lift HB.out (implNot_any _ _ _ VP.out LI.out LNI.out)).mono ?_); rintro e w4 ⟨np_1, np_2, np_3, np_4, rfl, hv, hbw, hbb⟩; (try have VA := Lib.hid (VA.out.carry hbb)); (try have VO := Lib.hid (VO.out.carry hbb)); (try have VX := Lib.hid (VX.out.carry hbb)); (try have VP := Lib.hid (VP.out.carry hbb)); (try have VQ := Lib.hid (VQ.out.carry hbb)); (try have VS := Lib.hid (VS.out.carry hbb)); (try have SX := Lib.hid (SX.out.carry hbb)); (try have SY := Lib.hid (SY.out.carry hbb)); (try have SS := Lib.hid (SS.out.carry hbb)); (try have NA := Lib.hid (NA.out.carry hbb)); (try have NP := Lib.hid (NP.out.carry hbb)); (try have NQ := Lib.hid (NQ.out.carry hbb)); (try have NO := Lib.hid (NO.out.carry hbb)); have NP := Lib.hid hv; clear hv; have HB := Lib.hid hbw; obtain ⟨⟨R0, R1, R2, R3, R4, R5⟩, ⟨A0, A1, A2, A3, A4, A5⟩, ⟨O0, O1, O2, O3, O4, O5⟩, ⟨X0, X1⟩, ⟨Y0, Y1⟩, ⟨p0, p1, p2, p3, p4, p5⟩, ⟨r0, r1, r2, r3, r4, r5⟩⟩ := KEEP10.out _ hbw; clear hbw hbb)
            | (go_at_call 21; (with_reducible refine (va_lift HB.out (implNot_any _ _ _ VQ.out LJ.out LNJ.out)).mono ?_); rintro e w4 ⟨nq_1, nq_2, nq_3, nq_4, rfl, hv, hbw, hbb⟩; (try have VA := Lib.hid (VA.out.carry hbb)); (try have VO := Lib.hid (VO.out.carry hbb)); (try have VX := Lib.hid (VX.out.carry hbb)); (try have VP := Lib.hid (VP.out.carry hbb)); (try have VQ := Lib.hid (VQ.out.carry hbb)); (try have VS := Lib.hid (VS.out.carry hbb)); (try have SX := Lib.hid (SX.out.carry hbb)); (try have SY := Lib.hid (SY.out.carry hbb)); (try have SS := Lib.hid (SS.out.carry hbb)); (try have NA := Lib.hid (NA.out.carry hbb)); (try have NP := Lib.hid (NP.out.carry hbb)); (try have NQ := Lib.hid (NQ.out.carry hbb)); (try have NO := Lib.hid (NO.out.carry hbb)); have NQ := Lib.hid hv; clear hv; have HB := Lib.hid hbw; obtain ⟨⟨R0, R1, R2, R3, R4, R5⟩, ⟨A0, A1, A2, A3, A4, A5⟩, ⟨O0, O1, O2, O3, O4, O5⟩, ⟨X0, X1⟩, ⟨Y0, Y1⟩, ⟨p0, p1, p2, p3, p4, p5⟩, ⟨r0, r1, r2, r3, r4, r5⟩⟩ := KEEP10.out _ hbw; clear hbw hbb)
            | (go_at_call 14; (with_reducible refine (va_lift HB.out (implOr_any _ _ _ _ _ NP.out NQ.out LNI.out LNJ.out LNO.out)).mono ?_); rintro e w4 ⟨no_1, no_2, no_3, no_4, rfl, hv, hbw, hbb⟩; (try have VA := Lib.hid (VA.out.carry hbb)); (try have VO := Lib.hid (VO.out.carry hbb)); (try have VX := Lib.hid (VX.out.carry hbb)); (try have VP := Lib.hid (VP.out.carry hbb)); (try have VQ := Lib.hid (VQ.out.carry hbb)); (try have VS := Lib.hid (VS.out.carry hbb)); (try have SX := Lib.hid (SX.out.carry hbb)); (try have SY := Lib.hid (SY.out.carry hbb)); (try have SS := Lib.hid (SS.out.carry hbb)); (try have NA := Lib.hid (NA.out.carry hbb)); (try have NP := Lib.hid (NP.out.carry hbb)); (try have NQ := Lib.hid (NQ.out.carry hbb)); (try have NO := Lib.hid (NO.out.carry hbb)); have NO := Lib.hid hv; clear hv; have HB := Lib.hid hbw; obtain ⟨⟨R0, R1, R2, R3, R4, R5⟩, ⟨A0, A1, A2, A3, A4, A5⟩, ⟨O0, O1, O2, O3, O4, O5⟩, ⟨X0, X1⟩, ⟨Y0, Y1⟩, ⟨p0, p1, p2, p3, p4, p5⟩, ⟨r0, r1, r2, r3, r4, r5⟩⟩ := KEEP10.out _ hbw; clear hbw hbb)
            | (go_at_call 19; (with_reducible refine (ret_lift HB.out (cmp_same _ _ _ NA.out NO.out (not_and_or i j) LNO.out)).mono ?_); rintro e w4 ⟨rfl, hbw, hbb⟩; (try have VA := Lib.hid (VA.out.carry hbb)); (try have VO := Lib.hid (VO.out.carry hbb)); (try have VX := Lib.hid (VX.out.carry hbb)); (try have VP := Lib.hid (VP.out.carry hbb)); (try have VQ := Lib.hid (VQ.out.carry hbb)); (try have VS := Lib.hid (VS.out.carry hbb)); (try have SX := Lib.hid (SX.out.carry hbb)); (try have SY := Lib.hid (SY.out.carry hbb)); (try have SS := Lib.hid (SS.out.carry hbb)); (try have NA := Lib.hid (NA.out.carry hbb)); (try have NP := Lib.hid (NP.out.carry hbb)); (try have NQ := Lib.hid (NQ.out.carry hbb)); (try have NO := Lib.hid (NO.out.carry hbb)); skip; have HB := Lib.hid hbw; obtain ⟨⟨R0, R1, R2, R3, R4, R5⟩, ⟨A0, A1, A2, A3, A4, A5⟩, ⟨O0, O1, O2, O3, O4, O5⟩, ⟨X0, X1⟩, ⟨Y0, Y1⟩, ⟨p0, p1, p2, p3, p4, p5⟩, ⟨r0, r1, r2, r3, r4, r5⟩⟩ := KEEP10.out _ hbw; clear hbw hbb))
          all_goals (go_wp2_with fail; go_meet; exact ⟨rfl, rfl, HB.out⟩)
        case rest =>
        obtain ⟨rfl, rfl, hb10⟩ := hcut
        have HE := Lib.hid (HW3.out.trans (hb10.mono HW3.out.size))
        clear hb10
        go_wp2_with fail
        go_ret
        exact ⟨rfl, HE.out⟩
    · clear ha hb hms hns
      go_enter Try.func5, Try.ntmps5
      go_wp2_with fail
      go_ret
      exact ⟨rfl, Below.refl _ _⟩
  · clear ha hb hms hns
    go_enter Try.func5, Try.ntmps5
    go_wp2_with fail
    go_ret
    exact ⟨rfl, Below.refl _ _⟩
end Go.Proofs.Ythnmkbdeoahiaaa
