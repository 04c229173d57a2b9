/- spec.Base of every number. -/
import Derived.Test.YtbfgjaammmpcdaaGreatDoorBase
import Derived.Test.YtbfgjaammmpcdaaGreatDoorIrLawM
namespace Go.Proofs.YtbfgjaammmpcdaaGreatDoor
open Go.RowKit Dig
set_option linter.unusedVariables false
set_option linter.unusedSimpArgs false
set_option maxRecDepth 100000

theorem zero_zero (mag : Value) (w : World) (hv : By w w.heap.size mag 0) : Calls Tryz.prog 11 #[.agg #[.bool false, mag]] w fun e w' => e = .returned (.bool true) ∧ Below w.heap.size w w' := by
  obtain ⟨xs, hr, a, c, rfl, _, _⟩ := hv
  have hx : xs = [] := hr.nil_iff.2 rfl
  subst hx
  have HB0 : Hid (Below w.heap.size w (w.alloc (.cells #[.bool false, .slice a ([] : List Value).length c] 24))) := Lib.hid ((Below.refl _ _).alloc (Nat.le_refl _) _)
  clear hr
  simp only [List.map_nil, List.length_nil] at HB0 ⊢
  go_enter Tryz.func11, Tryz.ntmps11
  go_wp2_with fail
  go_ret
  exact ⟨rfl, HB0.out⟩
def BasePost (b m : Nat) (w : World) (e : Ending) (w' : World) : Prop := ∃ s : ByteArray, e = .returned (.string s) ∧ s.data.toList.map UInt8.toNat = (digs b m).map sgnOf ∧ Below w.heap.size w w'
set_option maxHeartbeats 800000 in
theorem base_any (m b : Nat) (mag : Value) (w : World) (h : By w w.heap.size mag m) (hl : m < lim) (hb : 2 ≤ b) (hb2 : b ≤ 36) :
    Calls Tryz.prog 7 #[.agg #[.bool false, mag], .int .i64 (b : Int)] w (BasePost b m w) := by
  by_cases hm : m = 0
  · subst hm
    obtain ⟨xs, hr, a, c, rfl, h3, h4⟩ := h
    have hx : xs = [] := hr.nil_iff.2 rfl
    subst hx
    have HB0 : Hid (Below w.heap.size w (w.alloc (.cells #[.bool false, .slice a ([] : List Value).length c] 24))) := Lib.hid ((Below.refl _ _).alloc (Nat.le_refl _) _)
    have CZ := Lib.hid (zero_zero (.slice a ([] : List Value).length c) (w.alloc (.cells #[.bool false, .slice a ([] : List Value).length c] 24)) ⟨[], hr, a, c, rfl, Nat.zero_le _, fun h => absurd rfl h⟩)
    clear hr h3 h4 hl
    simp only [List.map_nil, List.length_nil] at HB0 CZ ⊢
    go_enter Tryz.func7, Tryz.ntmps7
    go_wp2_with fail
    with_reducible refine CZ.out.mono ?_
    rintro e w1 ⟨rfl, hb1⟩
    have HB := Lib.hid (HB0.out.trans (hb1.mono HB0.out.size))
    clear hb1 CZ
    go_wp2_with fail
    go_ret
    exact ⟨_, rfl, rfl, HB.out⟩
  · refine (base_pos m b mag w h hm hl hb hb2).mono ?_
    rintro e w' ⟨s, rfl, h1, h2⟩
    exact ⟨s, rfl, by rw [h1]; unfold digs; rw [if_neg hm], h2⟩
end Go.Proofs.YtbfgjaammmpcdaaGreatDoor
