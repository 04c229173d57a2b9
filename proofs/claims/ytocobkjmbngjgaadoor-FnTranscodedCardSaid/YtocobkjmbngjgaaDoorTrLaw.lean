/- The law FnTranscoded: its walk. -/
import Derived.Test.YtocobkjmbngjgaaDoorTrWalk
import Derived.Deep.RegionHeld3
import Derived.Outline
namespace Go.Proofs.YtocobkjmbngjgaaDoor
open Go.RowKit
set_option linter.unusedVariables false
set_option linter.unusedSimpArgs false
set_option maxRecDepth 1000000

theorem tr_three : tr [97, 255, 98] = [97, 239, 191, 189, 98] := by decide
set_option maxHeartbeats 1600000 in
theorem lawTr (s : ByteArray) (w : World) (hT : Tabs w) :
    Calls Tryd.prog 3 #[.string s] w fun e w' => e = .returned (.bool true) ∧ Below w.heap.size w w' := by
  by_cases hl : s.size ≤ 2147483647
  · obtain ⟨t, ht⟩ : ∃ t, t = s.extract 0 (min (s.size : Int) 400).toNat := ⟨_, rfl⟩
    have hts : t.size ≤ 2147483647 := by rw [ht, ByteArray.size_extract]; omega
    have T1 : Hid (∀ W, Below w.heap.size w W → Calls Tryd.prog 4 #[.string t] W fun e w' => e = .returned (.string ⟨(tr t.data.toList).toArray⟩) ∧ Below w.heap.size w w') := Lib.hid (fun W h => (implTr_any t W hts (hT.below h)).mono (by rintro e w' ⟨he, hb⟩; exact ⟨he, h.trans (hb.mono h.size)⟩))
    have T2 : Hid (∀ W, Below w.heap.size w W → Calls Tryd.prog 5 #[.string t] W fun e w' => e = .returned (.string ⟨(tr t.data.toList).toArray⟩) ∧ Below w.heap.size w w') := Lib.hid (fun W h => (decoded_any t W hts (hT.below h)).mono (by rintro e w' ⟨he, hb⟩; exact ⟨he, h.trans (hb.mono h.size)⟩))
    have T3 : Hid (∀ W, Below w.heap.size w W → Calls Tryd.prog 4 #[.string ⟨#[97, 255, 98]⟩] W fun e w' => e = .returned (.string ⟨#[97, 239, 191, 189, 98]⟩) ∧ Below w.heap.size w w') := Lib.hid (fun W h => (implTr_any ⟨#[97, 255, 98]⟩ W (by decide) (hT.below h)).mono (by
      rintro e w' ⟨he, hb⟩
      refine ⟨?_, h.trans (hb.mono h.size)⟩
      rw [he]
      show Ending.returned (.string ⟨(tr [97, 255, 98]).toArray⟩) = _
      rw [tr_three]))
    have HB : Hid (Below w.heap.size w w) := Below.refl _ _
    have HD : Hid (Below w.heap.size w w.drew) := (Below.refl _ _).drew
    have hk1 : (0 : Int) ≤ min (s.size : Int) 400 := by omega
    have hk2 : min (s.size : Int) 400 ≤ (s.size : Int) := by omega
    have HT := Lib.hid ht
    generalize tr t.data.toList = R at *
    clear hts hT ht
    go_enter Tryd.func3, Tryd.ntmps3
    go_wp2_with fail
    rw [← HT.out]
    refine (T1.out _ HB.out).mono ?_
    rintro e w1 ⟨rfl, hb⟩
    have HB := Lib.hid hb
    clear hb
    go_wp2_with (first
      | (go_at_call 4; (with_reducible refine (T1.out _ (by first | exact HB.out | (with_unfolding_all exact HB.out))).mono ?_); rintro e w1 ⟨rfl, hb⟩; have HB := Lib.hid hb; clear hb)
      | (go_at_call 5; (with_reducible refine (T2.out _ (by first | exact HB.out | (with_unfolding_all exact HB.out))).mono ?_); rintro e w2 ⟨rfl, hb⟩; have HB := Lib.hid hb; clear hb)
      | (go_at_call 4; (with_reducible refine (T3.out _ (by first | exact HB.out | (with_unfolding_all exact HB.out))).mono ?_); rintro e w3 ⟨rfl, hb⟩; have HB := Lib.hid hb; clear hb))
    all_goals
      go_ret
      exact ⟨rfl, HB.out⟩
  · clear hT
    have HB : Hid (Below w.heap.size w w) := Below.refl _ _
    go_enter Tryd.func3, Tryd.ntmps3
    go_wp2_with fail
    go_ret
    exact ⟨rfl, HB.out⟩
end Go.Proofs.YtocobkjmbngjgaaDoor
