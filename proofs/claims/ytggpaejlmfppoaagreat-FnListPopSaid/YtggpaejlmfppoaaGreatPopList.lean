/- starlark.NewList, Len, Index, impl.listOf, impl.bounds, impl.tellScalar. -/
import Derived.Test.YtggpaejlmfppoaaGreatPopMem
import Derived.Test.YtggpaejlmfppoaaGreatCels
import Derived.Test.YtggpaejlmfppoaaGreatMNew
import Derived.WalkSpells
namespace Go.Proofs.YtggpaejlmfppoaaGreat
open Go.RowKit Dig
set_option linter.unusedVariables false
set_option linter.unusedSimpArgs false
set_option maxRecDepth 100000

theorem newList_any (g n c : Nat) (w : World) : Calls Tryz.prog 40 #[.slice (some ⟨g, 0, none⟩) n c] w fun e w' => e = .returned (.pointer (some ⟨w.heap.size, 0, none⟩)) ∧ w' = w.alloc (.cells [.slice (some ⟨g, 0, none⟩) n c, .bool false, .int .u32 0].toArray 110) := by
  go_enter Tryz.func40, Tryz.ntmps40
  go_wp2_with fail
  go_ret
  exact ⟨rfl, rfl⟩
theorem listLen_any (lb g cap : Nat) (xs : List Cel) (w : World) (h : Lst w lb g cap xs) : Calls Tryz.prog 45 #[.pointer (some ⟨lb, 0, none⟩)] w fun e w' => e = .returned (.int .i64 (xs.length : Int)) ∧ w' = w := by
  obtain ⟨c0, _, _, _, l0, _, _⟩ := h.cells
  clear h
  go_enter Tryz.func45, Tryz.ntmps45
  go_wp2_with fail
  go_ret
  exact ⟨rfl, rfl⟩
theorem listIndex_any (lb g cap k : Nat) (xs : List Cel) (x : Cel) (w : World) (h : Lst w lb g cap xs) (hx : xs[k]? = some x) : Calls Tryz.prog 46 #[.pointer (some ⟨lb, 0, none⟩), .int .i64 (k : Int)] w fun e w' => ∃ T y, e = .returned (.iface T y) ∧ SC w w.heap.size (.iface T y) x ∧ w' = w := by
  obtain ⟨c0, _, _, _, l0, _, _⟩ := h.cells
  obtain ⟨T, y, c1, hs⟩ := h.get hx
  have HS := Lib.hid hs
  have hk : k < xs.length := (List.getElem?_eq_some_iff.1 hx).1
  have hi1 : (0 : Int) ≤ (k : Int) := by omega
  have hi2 : (k : Int) < (xs.length : Int) := by omega
  generalize xs.length = n at *
  clear h hx hs hk
  go_enter Tryz.func46, Tryz.ntmps46
  go_wp2_with fail
  go_ret
  exact ⟨T, y, rfl, HS.out, rfl⟩
/-- a list has been made of the values -/
def LoPost (xs : List Cel) (w : World) (e : Ending) (w' : World) : Prop := ∃ lb g, e = .returned (.tuple #[.pointer (some ⟨lb, 0, none⟩), .bool true]) ∧ Lst w' lb g xs.length xs ∧ w.heap.size ≤ g ∧ w.heap.size ≤ lb ∧ Below w.heap.size w w'
set_option maxHeartbeats 1600000 in
theorem implListOf_any (xs : List Cel) (a : Option Addr) (n c : Nat) (w : World) (hv : CeL w w.heap.size (.slice a n c) xs) (hok : ∀ x ∈ xs, x.ok) (hlen : xs.length ≤ 1048576) : Calls Tryz.prog 13 #[.slice a n c] w (LoPost xs w) := by
  have C := Lib.hid (celScalars_own xs _ w hv hok hlen)
  clear hv hok hlen
  go_enter Tryz.func13, Tryz.ntmps13
  go_wp2_with fail
  refine C.out.mono ?_
  rintro e w1 ⟨us, g, rfl, hg, hl, hu, hk, hb⟩
  have FIN : Hid (LoPost xs w (.returned (.tuple #[.pointer (some ⟨w1.heap.size, 0, none⟩), .bool true])) (w1.alloc (.cells [.slice (some ⟨g, 0, none⟩) xs.length xs.length, .bool false, .int .u32 0].toArray 110))) := Lib.hid (by
    have ha : Below w1.heap.size w1 (w1.alloc (.cells [.slice (some ⟨g, 0, none⟩) xs.length xs.length, .bool false, .int .u32 0].toArray 110)) := (Below.refl _ _).alloc (Nat.le_refl _) _
    refine ⟨w1.heap.size, g, rfl, ⟨us, [], hl, by simp [hl], ?_, ?_, by rw [List.append_nil]; exact hk.alloc _, Blk.new _ _ _, ?_⟩, hg, hb.size, hb.alloc hb.size _⟩
    · intro u hu'
      rw [List.append_nil] at hu'
      obtain ⟨j, hj, rfl⟩ := List.mem_iff_getElem.1 hu'
      obtain ⟨T, y, e1, _⟩ := hu j (xs[j]'(by omega)) (List.getElem?_eq_getElem _)
      rw [List.getElem?_eq_getElem hj] at e1
      injection e1 with e1
      exact ⟨T, y, e1⟩
    · intro k x hx
      obtain ⟨T, y, e1, e2⟩ := hu k x hx
      exact ⟨T, y, e1, (e2.below ha).more ha.size⟩
    · have := hk.lt; omega)
  clear hg hl hu hk hb C
  go_wp2_with fail
  refine (newList_any _ _ _ _).mono ?_
  rintro e w2 ⟨rfl, rfl⟩
  go_wp2_with fail
  go_ret2
  exact FIN.out
theorem implBounds_any (xs : List Cel) (v : Value) (w : World) (hv : CeL w w.heap.size v xs) (hok : ∀ x ∈ xs, x.ok) (hlen : xs.length ≤ 1048576) : Calls Tryz.prog 14 #[v] w (CrsOwn xs w) := by
  have C := Lib.hid (celScalars_own xs _ w hv hok hlen)
  obtain ⟨a, c, rfl, _⟩ := hv
  clear hok hlen
  go_enter Tryz.func14, Tryz.ntmps14
  go_wp2_with fail
  refine C.out.mono ?_
  rintro e w1 ⟨us, g, rfl, hg, hl, hu, hk, hb⟩
  have H : Hid (CrsOwn xs w (.returned (.tuple #[.slice (some ⟨g, 0, none⟩) xs.length xs.length, .bool true])) w1) := Lib.hid ⟨us, g, rfl, hg, hl, hu, hk, hb⟩
  clear hg hl hu hk hb C
  go_wp2_with fail
  go_ret2
  exact H.out
end Go.Proofs.YtggpaejlmfppoaaGreat
