/- laws.is: a value of the kind Int and the reference's integer: true where they stand for one number. -/
import Derived.Test.YtbfgjaammmpcdaaGreatDoorRows
import Derived.Test.YtbfgjaammmpcdaaGreatDoorMBase
namespace Go.Proofs.YtbfgjaammmpcdaaGreatDoor
open Go.RowKit Dig
set_option linter.unusedVariables false
set_option linter.unusedSimpArgs false
set_option maxRecDepth 100000

set_option maxHeartbeats 400000 in
theorem is_any (i : Int) (v x : Value) (w : World) (hv : Va w w.heap.size v i) (hx : Sp w w.heap.size x i) (hlen : i.natAbs < lim) :
    Calls Tryz.prog 9 #[v, x] w fun e w' => e = .returned (.bool true) ∧ Below w.heap.size w w' := by
  obtain ⟨m1, rfl, ms, hm, hs1⟩ := hv
  obtain ⟨m2, rfl, ns, hn, hs2⟩ := hx
  obtain rfl := hm.unique hn
  have hl : ms.length ≤ 4096 := hm.length_le hlen
  clear hn hm hlen
  generalize decide (i < 0) = neg
  obtain ⟨a1, c1, rfl, hc1, hr1⟩ := hs1
  obtain ⟨a2, c2, rfl, hc2, hr2⟩ := hs2
  simp only [List.length_map, ne_eq, List.map_eq_nil_iff] at hc1 hc2 hr1 hr2
  simp only [List.length_map]
  by_cases h0 : ms = []
  · subst h0
    clear hr1 hr2
    cases neg
    · go_enter Tryz.func9, Tryz.ntmps9
      go_wp2
      go_rounds 1
      go_ret
      exact ⟨rfl, by go_grown⟩
    · go_enter Tryz.func9, Tryz.ntmps9
      go_wp2
      go_rounds 1
      go_ret
      exact ⟨rfl, by go_grown⟩
  · obtain ⟨b1, o1, rfl, hb1, r1⟩ := hr1 h0
    obtain ⟨b2, o2, rfl, hb2, r2⟩ := hr2 h0
    have hp : 0 < ms.length := List.length_pos_iff.2 h0
    have R1 := Lib.hid r1
    have R2 := Lib.hid r2
    clear hr1 hr2 r1 r2 h0
    cases neg <;>
    · go_enter Tryz.func9, Tryz.ntmps9
      go_wp2
      go_loopw [44] (fun i wr => ∃ k : Nat, k ≤ ms.length ∧ i = .int .i64 k ∧ wr.cell? ⟨w.heap.size, 2, none⟩ = some (.slice (some ⟨b1, o1, none⟩) ms.length c1) ∧ wr.cell? ⟨w.heap.size + 1, 1, none⟩ = some (.slice (some ⟨b2, o2, none⟩) ms.length c2) ∧ Below w.heap.size w wr) (fun i _ => ms.length - (intOf i).toNat)
      case atStart => exact ⟨0, Nat.zero_le _, rfl, by simp, by simp, ((Below.refl _ _).alloc (Nat.le_refl _) _).alloc (by simp) _⟩
      case round =>
        obtain ⟨k, hk, rfl, k1, k2, hw⟩ := hrel
        by_cases hlt : k < ms.length
        · have q1 := (R1.out.below hw hb1) k (by simpa using hlt)
          have q2 := (R2.out.below hw hb2) k (by simpa using hlt)
          rw [getD_map_bv ms k hlt] at q1 q2
          generalize ms.getD k 0 = x at *
          have HW := Lib.hid hw; clear hw
          go_wp2
          go_quiet (fail)
          go_wp2
          go_roundw
          case rel => exact ⟨k + 1, by omega, by go_num, k1, k2, below_drewN HW.out _⟩
          case measure => simp [intOf]; omega
        · go_wp2
          go_ret
          exact ⟨rfl, hw⟩
end Go.Proofs.YtbfgjaammmpcdaaGreatDoor
