/- starlark.zero. -/
import Derived.Test.YtbfgjaammmpcdaaGreatDoorStar
namespace Go.Proofs.YtbfgjaammmpcdaaGreatDoor
open Go.RowKit Dig
set_option linter.unusedVariables false
set_option linter.unusedSimpArgs false
set_option maxRecDepth 100000

def ZePost (w : World) (e : Ending) (w' : World) : Prop := e = .returned (.agg #[.int .i64 0, .pointer none]) ∧ Below w.heap.size w w'
theorem zeroSmall_any (w : World) : Calls Tryz.prog 44 #[.int .i64 0] w (ZePost w) := by
  go_enter Tryz.func44, Tryz.ntmps44
  go_wp2
  go_returns
  exact ⟨rfl, by go_grown⟩
theorem starZero_any (w : World) : Calls Tryz.prog 49 #[] w (ZePost w) := by
  have hk0 := Blk.new w 54 [.int .i64 0, .pointer none]
  have hb0 : Below w.heap.size w (w.alloc (.cells #[.int .i64 0, .pointer none] 54)) := (Below.refl _ _).alloc (Nat.le_refl _) _
  have C := Lib.hid (zeroSmall_any (w.alloc (.cells #[.int .i64 0, .pointer none] 54)))
  have HK := Lib.hid hk0
  have HB := Lib.hid hb0
  clear hk0 hb0
  go_enter Tryz.func49, Tryz.ntmps49
  go_wp2_with fail
  with_reducible refine C.out.mono ?_
  rintro e w1 ⟨rfl, hb1⟩
  have hk1 := HK.out.below hb1 HK.out.lt
  have hbb := HB.out.trans (hb1.mono HB.out.size)
  have c0 := hk1.cell 0 (by simp)
  have c1 := hk1.cell 1 (by simp)
  have f0 := hk1.free 0
  have f1 := hk1.free 1
  have lt := hk1.lt
  have F : Hid (Below w.heap.size w ((w1.setCell ⟨w.heap.size, 0, none⟩ (.int .i64 0)).setCell ⟨w.heap.size, 1, none⟩ (.pointer none))) := Lib.hid ((hbb.setCell (p := ⟨w.heap.size, 0, none⟩) (Nat.le_refl _) _).setCell (p := ⟨w.heap.size, 1, none⟩) (Nat.le_refl _) _)
  clear hk1 hbb hb1 C
  go_wp2_with fail
  refine bodyPost_ret (v := .agg #[.int .i64 0, .pointer none]) (by simp [results, Tryz.results49, go_sem, c0, c1, lt] <;> rfl) rfl ?_
  exact ⟨rfl, F.out⟩
end Go.Proofs.YtbfgjaammmpcdaaGreatDoor
