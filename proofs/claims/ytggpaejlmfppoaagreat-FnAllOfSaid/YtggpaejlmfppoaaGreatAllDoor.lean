/- starlark.ZzAll, impl.ofTruth, impl.AllOf. -/
import Derived.Test.YtggpaejlmfppoaaGreatAllAll
import Derived.Test.YtggpaejlmfppoaaGreatPopTell
import Derived.Test.YtggpaejlmfppoaaGreatDigLaw
namespace Go.Proofs.YtggpaejlmfppoaaGreat
open Go.RowKit Dig
set_option linter.unusedVariables false
set_option linter.unusedSimpArgs false
set_option maxRecDepth 100000

def AlPost (b : Bool) (H : Nat) (w : World) (e : Ending) (w' : World) : Prop := e = .returned (.tuple #[.iface 82 (.bool b), .nilIface]) ∧ Below H w w'
theorem zzAll_any (lb g cap H ga ca : Nat) (xs : List Cel) (w : World) (h : Lst w lb g cap xs) (hH : H ≤ lb) (hok : ∀ x ∈ xs, x.ok) (hxl : xs.length ≤ 1048576) (hga : w.cell? ⟨ga, 0, none⟩ = some (.iface 40 (.pointer (some ⟨lb, 0, none⟩)))) :
    Calls Tryz.prog 33 #[.slice (some ⟨ga, 0, none⟩) 1 ca] w (AlPost (allT xs) H w) := by
  have C := Lib.hid (all_any lb g cap H ga ca xs w h hH hok hxl hga)
  clear h hok hga
  go_enter Tryz.func33, Tryz.ntmps33
  go_wp2_with fail
  refine C.out.mono ?_
  rintro e w1 ⟨rfl, hb⟩
  have HB := Lib.hid hb
  clear hb C
  go_wp2_with fail
  go_ret2
  exact ⟨rfl, HB.out⟩
set_option maxHeartbeats 1600000 in
theorem implAllOf_any (xs : List Cel) (a : Option Addr) (n c : Nat) (w : World) (hv : CeL w w.heap.size (.slice a n c) xs) (hok : ∀ x ∈ xs, x.ok) (hxl : xs.length ≤ 1048576) :
    Calls Tryz.prog 10 #[.slice a n c] w fun e w' => e = .returned (.tuple #[.bool (allT xs), .bool true, .bool true]) ∧ Below w.heap.size w w' := by
  have C1 := Lib.hid (implListOf_any xs a n c w hv hok hxl)
  have HOK := Lib.hid hok; have HXL := Lib.hid hxl
  have OT := Lib.hid ofTruth_any
  clear hv hok hxl
  go_enter Tryz.func10, Tryz.ntmps10
  go_wp2_with fail
  refine C1.out.mono ?_
  rintro e w1 ⟨lb, g, rfl, hL, hg, hlb, hb1⟩
  have C2 : Hid (Calls Tryz.prog 33 #[.slice (some ⟨w1.heap.size, 0, none⟩) 1 1] (w1.alloc (.cells #[.iface 40 (.pointer (some ⟨lb, 0, none⟩))] 47)) (AlPost (allT xs) w.heap.size (w1.alloc (.cells #[.iface 40 (.pointer (some ⟨lb, 0, none⟩))] 47)))) := Lib.hid (by
    have ha : Below w1.heap.size w1 (w1.alloc (.cells #[.iface 40 (.pointer (some ⟨lb, 0, none⟩))] 47)) := (Below.refl _ _).alloc (Nat.le_refl _) _
    exact zzAll_any lb g xs.length w.heap.size w1.heap.size 1 xs _ (hL.below ha) hlb HOK.out HXL.out ((Blk.new w1 47 [.iface 40 (.pointer (some ⟨lb, 0, none⟩))]).cell 0 (by simp)))
  have HB1 : Hid (Below w.heap.size w (w1.alloc (.cells #[.iface 40 (.pointer (some ⟨lb, 0, none⟩))] 47))) := Lib.hid (hb1.alloc hb1.size _)
  clear hL hg hlb hb1 C1
  go_wp2_with fail
  refine C2.out.mono ?_
  rintro e w2 ⟨rfl, hb2⟩
  have HB2 := Lib.hid (HB1.out.trans hb2)
  clear hb2 C2 HB1
  go_wp2_with fail
  refine (OT.out _ _).mono ?_
  rintro e w3 ⟨rfl, hb3⟩
  have HB3 := Lib.hid (HB2.out.trans (hb3.mono HB2.out.size))
  clear hb3
  go_wp2_with fail
  refine bodyPost_ret (v := .tuple #[.bool (allT xs), .bool true, .bool true]) (by simp [results, Tryz.results10, go_sem] <;> rfl) rfl ?_
  exact ⟨rfl, HB3.out⟩
end Go.Proofs.YtggpaejlmfppoaaGreat
