/- spec.cases, spec.TextMethod and spec.Asked at the name isdigit. -/
import Derived.Test.YtggpaejlmfppoaaGreatMeth
namespace Go.Proofs.YtggpaejlmfppoaaGreat
open Go.RowKit
set_option linter.unusedVariables false
set_option linter.unusedSimpArgs false
set_option maxRecDepth 100000

def digB (b : UInt8) : Bool := decide (48 ≤ (b.toNat : Int)) && decide ((b.toNat : Int) ≤ 57)
def upB (b : UInt8) : Bool := decide (65 ≤ (b.toNat : Int)) && decide ((b.toNat : Int) ≤ 90)
def loB (b : UInt8) : Bool := decide (97 ≤ (b.toNat : Int)) && decide ((b.toNat : Int) ≤ 122)
def allDig (s : ByteArray) (k : Nat) : Bool := decide (0 < s.size) && (s.data.toList.take k).all digB
theorem allDig_zero (s : ByteArray) : allDig s 0 = decide (0 < s.size) := by simp [allDig]
theorem allDig_succ (s : ByteArray) (k : Nat) (h : k < s.size) : allDig s (k + 1) = (allDig s k && digB (s[k]'h)) := by
  have hl : k < s.data.toList.length := by simpa using h
  unfold allDig
  rw [List.take_add_one, List.getElem?_eq_getElem hl, List.all_append]
  have e : s.data.toList[k]'hl = s[k]'h := by simp; rfl
  rw [e]
  simp [Bool.and_assoc]
def isdigitN : ByteArray := ⟨#[105, 115, 100, 105, 103, 105, 116]⟩
/-- the result's cell, about to be written -/
theorem six_ready {w w' : World} {g : Nat} {x0 x1 x2 x3 x4 x5 : Value} (h : Blk w' g 27 [x0, x1, x2, x3, x4, x5]) :
    (w'.cell? ⟨g, 0, none⟩ = some x0 ∧ w'.cell? ⟨g, 1, none⟩ = some x1 ∧ w'.cell? ⟨g, 2, none⟩ = some x2 ∧ w'.cell? ⟨g, 3, none⟩ = some x3 ∧ w'.cell? ⟨g, 4, none⟩ = some x4 ∧ w'.cell? ⟨g, 5, none⟩ = some x5) ∧
    (w'.frozen? ⟨g, 0, none⟩ = false ∧ w'.frozen? ⟨g, 1, none⟩ = false ∧ w'.frozen? ⟨g, 2, none⟩ = false ∧ w'.frozen? ⟨g, 3, none⟩ = false ∧ w'.frozen? ⟨g, 4, none⟩ = false ∧ w'.frozen? ⟨g, 5, none⟩ = false) :=
  ⟨⟨h.cell 0 (by simp), h.cell 1 (by simp), h.cell 2 (by simp), h.cell 3 (by simp), h.cell 4 (by simp), h.cell 5 (by simp)⟩, ⟨h.free 0, h.free 1, h.free 2, h.free 3, h.free 4, h.free 5⟩⟩
theorem six_below {w w' : World} {g : Nat} (hb : Below w.heap.size w w') (hg : w.heap.size ≤ g) (v0 v1 v2 v3 v4 v5 : Value) :
    Below w.heap.size w ((((((w'.setCell ⟨g, 0, none⟩ v0).setCell ⟨g, 1, none⟩ v1).setCell ⟨g, 2, none⟩ v2).setCell ⟨g, 3, none⟩ v3).setCell ⟨g, 4, none⟩ v4).setCell ⟨g, 5, none⟩ v5) :=
  (((((hb.setCell hg v0).setCell hg v1).setCell hg v2).setCell hg v3).setCell hg v4).setCell hg v5
/-- what the rounds of spec.cases keep -/
def CaRel (s : ByteArray) (w0 : World) (b : Nat) (n : Nat) (a i : Value) (wr : World) : Prop :=
  ∃ (k : Nat) (L : List Value), k ≤ s.size ∧ i = .int .i64 (k : Int) ∧ (∃ ab, a = .bool ab ∧ Hid (ab = allDig s k)) ∧ Hid (L.length = n) ∧ Hid (BlkM wr b 5 L) ∧ Hid (Below b w0 wr)
end Go.Proofs.YtggpaejlmfppoaaGreat
