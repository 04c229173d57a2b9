/- spec.TextMethod and spec.Asked at the name isdigit; the method isdigit; the law. -/
import Derived.Test.YtggpaejlmfppoaaGreatCases
import Derived.LoopTactic
import Derived.Laws.RangeString
import Derived.Laws.RangeAny
namespace Go.Proofs.YtggpaejlmfppoaaGreat
open Go.RowKit
set_option linter.unusedVariables false
set_option linter.unusedSimpArgs false
set_option maxRecDepth 100000

theorem blk_zero (w : World) : Blk (w.alloc (.cells #[.int .i64 0, .bool false, .slice none 0 0, .int .u64 0, .string { data := #[] }, .slice none 0 0] 27)) w.heap.size 27 [.int .i64 0, .bool false, .slice none 0 0, .int .u64 0, .string { data := #[] }, .slice none 0 0] := Blk.new w _ [.int .i64 0, .bool false, .slice none 0 0, .int .u64 0, .string { data := #[] }, .slice none 0 0]
theorem six_set {w' : World} {g : Nat} {x0 x1 x2 x3 x4 x5 : Value} (h : Blk w' g 27 [x0, x1, x2, x3, x4, x5]) (v0 v1 v2 v3 v4 v5 : Value) :
    Blk ((((((w'.setCell ⟨g, 0, none⟩ v0).setCell ⟨g, 1, none⟩ v1).setCell ⟨g, 2, none⟩ v2).setCell ⟨g, 3, none⟩ v3).setCell ⟨g, 4, none⟩ v4).setCell ⟨g, 5, none⟩ v5) g 27 [v0, v1, v2, v3, v4, v5] :=
  (((((h.set 0 v0).set 1 v1).set 2 v2).set 3 v3).set 4 v4).set 5 v5
def IsDPost (b : Bool) (w : World) (e : Ending) (w' : World) : Prop := e = .returned (.tuple #[.iface 82 (.bool b), .nilIface]) ∧ Below w.heap.size w w'
theorem iter_below (w : World) (s : ByteArray) (pos : Nat) : Below w.heap.size w (w.iter s pos) := (Below.refl _ _).alloc (Nat.le_refl _) _
theorem allDig_false (s : ByteArray) (k : Nat) (h : k < s.size) (hd : digB (s[k]'h) = false) : allDig s s.size = false := by
  unfold allDig
  rw [Bool.and_eq_false_iff]; right
  rw [List.all_eq_false]
  refine ⟨s[k]'h, ?_, by simp [hd]⟩
  have hl : k < s.data.toList.length := by simpa using h
  have e : s[k]'h = s.data.toList[k]'hl := by simp; rfl
  rw [e, List.take_of_length_le (by simp)]
  exact List.getElem_mem hl
theorem asc_seven (s : ByteArray) : ∀ i (hi : i < (asc s).size), ((asc s)[i]'hi).toNat < 128 := by
  intro i hi
  have hl : i < ((s.data.toList.take 60).map low7).length := by
    have h2 : i < (asc s).data.size := hi
    unfold asc at h2
    simpa using h2
  have e : (asc s)[i]'hi = ((s.data.toList.take 60).map low7)[i]'hl := by
    show (asc s).data[i]'hi = _
    simp [asc]
  rw [e, List.getElem_map]
  exact low7_lt _
end Go.Proofs.YtggpaejlmfppoaaGreat
