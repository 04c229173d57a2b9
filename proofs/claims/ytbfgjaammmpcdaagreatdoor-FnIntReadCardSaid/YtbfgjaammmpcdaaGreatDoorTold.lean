/- laws.told, laws.whole: an integer as the reference and as the program has it. -/
import Derived.Test.YtbfgjaammmpcdaaGreatDoorMNew
import Derived.Test.YtbfgjaammmpcdaaGreatDoorSpecOf
import Derived.Deep.RegionLaw
namespace Go.Proofs.YtbfgjaammmpcdaaGreatDoor
open Go.RowKit Dig
set_option linter.unusedVariables false
set_option linter.unusedSimpArgs false
set_option maxRecDepth 100000

/-- the world in which 'told' appends -/
def toldW (w : World) (neg : Bool) (mag : Value) : World :=
  ((w.alloc (.cells #[.bool neg, mag] 24)).alloc (.cells zeroVal.toArray 28)).alloc (.cells #[] 5)
theorem toldW_below (w : World) (neg : Bool) (mag : Value) : Below w.heap.size w (toldW w neg mag) := (((Below.refl _ _).alloc (Nat.le_refl _) _).alloc (by simp) _).alloc (by simp; omega) _
theorem toldW_row (w : World) (neg : Bool) (mag : Value) : Blk (toldW w neg mag) (w.heap.size + 1 + 1) 5 [] := by
  have := Blk.new ((w.alloc (.cells #[.bool neg, mag] 24)).alloc (.cells zeroVal.toArray 28)) 5 []
  simpa [toldW] using this
theorem toldW_val (w : World) (neg : Bool) (mag : Value) : Blk (toldW w neg mag) (w.heap.size + 1) 28 zeroVal := by
  have := (Blk.new (w.alloc (.cells #[.bool neg, mag] 24)) 28 zeroVal).alloc (.cells #[] 5)
  simpa [toldW] using this
theorem toldW_int (w : World) (neg : Bool) (mag : Value) : Blk (toldW w neg mag) w.heap.size 24 [.bool neg, mag] :=
  ((Blk.new w 24 [.bool neg, mag]).alloc _).alloc _

set_option maxHeartbeats 1600000 in
theorem told_any (v : Value) (i : Int) (w : World) (hv : Sp w w.heap.size v i) (hl : i.natAbs < lim) : Calls Tryz.prog 12 #[v] w (VaPost i w) := by
  obtain ⟨mag, rfl, ms, hm, hs⟩ := hv
  obtain ⟨i0, hi0, hz0, hz1, hz2⟩ := info_parts info8
  have hlen : ms.length ≤ 4096 := hm.length_le hl
  obtain ⟨neg, hneg⟩ : ∃ neg, neg = decide (i < 0) := ⟨_, rfl⟩
  rw [← hneg]
  have ROW : Hid (Blk (toldW w neg mag).drew (w.heap.size + 1 + 1) 5 []) := toldW_row w neg mag
  have SRC : Hid (Sl (toldW w neg mag).drew w.heap.size mag (ms.map bv)) := (hs.below (toldW_below w neg mag)).drewN 1
  have after : Hid (∀ a' c' w', Sl w' w'.heap.size (.slice a' (ms.map bv).length c') (ms.map bv) → Up (some (w.heap.size + 1 + 1)) (toldW w neg mag).drew w' →
      Blk w' (w.heap.size + 1) 28 zeroVal ∧ Blk w' w.heap.size 24 [.bool neg, mag] ∧
      VaPost i w (.returned (.agg #[.int .i64 2, .bool neg, .slice a' (ms.map bv).length c', .int .u64 0, .string ByteArray.empty, .slice none 0 0]))
      ((((((w'.setCell ⟨w.heap.size + 1, 0, none⟩ (.int .i64 2)).setCell ⟨w.heap.size + 1, 1, none⟩ (.bool neg)).setCell ⟨w.heap.size + 1, 2, none⟩ (.slice a' (ms.map bv).length c')).setCell ⟨w.heap.size + 1, 3, none⟩ (.int .u64 0)).setCell ⟨w.heap.size + 1, 4, none⟩ (.string ByteArray.empty)).setCell ⟨w.heap.size + 1, 5, none⟩ (.slice none 0 0))) := Lib.hid (fun a' c' w' hsl hu' => by
    have hu : Up (some (w.heap.size + 1 + 1)) (toldW w neg mag) w' := ((Up.refl _ _).drewN 1).trans hu'
    have k1 := (toldW_val w neg mag).up hu (by simp)
    have k0 := (toldW_int w neg mag).up hu (by simp; omega)
    have hb : Below w.heap.size w w' := (toldW_below w neg mag).trans (hu.below (toldW_below w neg mag).size (fun k hk => by injection hk with hk; omega))
    exact ⟨k1, k0, Va.store ⟨ms, hm, hsl⟩ hneg k1 hb (by omega)⟩)
  have H1 := Lib.hid (show (ms.map bv).length ≤ maxLen by simp [maxLen]; omega)
  have H2 := Lib.hid (show (ms.map bv).length * 1 ≤ 140737488355328 by simp; omega)
  obtain ⟨a, c, rfl, _⟩ := id hs
  clear hs hm hneg hlen hl
  unfold toldW zeroVal at ROW SRC after
  simp only [List.length_map] at ROW SRC after
  go_enter Tryz.func12, Tryz.ntmps12
  go_wp2_with fail
  go_region_law (refine step_append_new _ rfl (.tmp 5) (.tmp 7) 22 rfl 5 i0 _ 1 Tryz.underlying22 hi0 hz0 hz1 hz2 rfl (w.heap.size + 1 + 1) (by simp [Act.eval, Act.put]) ROW.out w.heap.size _ (ms.map bv) (by simp [Act.eval, Act.put]) SRC.out (oneCell_bv _) H1.out H2.out ?_; intro a' c' w' h1 h2; simp only [List.length_map] at h1; obtain ⟨k1, k0, hfin⟩ := after.out a' c' w' h1 h2; have hlt := k1.lt; have hlt0 := k0.lt; have q0 := k0.cell 0 (by simp); have q1 := k0.cell 1 (by simp); simp only [List.getD_cons_zero, List.getD_cons_succ] at q0 q1; have c0 : w'.cell? ⟨w.heap.size + 1, 0, none⟩ = some (.int .i64 0) := k1.cell 0 (by simp); have c1 : w'.cell? ⟨w.heap.size + 1, 1, none⟩ = some (.bool false) := k1.cell 1 (by simp); have c2 : w'.cell? ⟨w.heap.size + 1, 2, none⟩ = some (.slice none 0 0) := k1.cell 2 (by simp); have c3 : w'.cell? ⟨w.heap.size + 1, 3, none⟩ = some (.int .u64 0) := k1.cell 3 (by simp); have c4 : w'.cell? ⟨w.heap.size + 1, 4, none⟩ = some (.string ByteArray.empty) := k1.cell 4 (by simp); have c5 : w'.cell? ⟨w.heap.size + 1, 5, none⟩ = some (.slice none 0 0) := k1.cell 5 (by simp); have f0 := k1.free 0; have f1 := k1.free 1; have f2 := k1.free 2; have f3 := k1.free 3; have f4 := k1.free 4; have f5 := k1.free 5; have F := Lib.hid hfin; clear k1 k0 hfin h1 h2)
  all_goals
    go_wp2_with fail
    refine bodyPost_ret (v := .agg #[.int .i64 2, .bool neg, .slice a' ms.length c', .int .u64 0, .string ByteArray.empty, .slice none 0 0]) (by simp [results, Tryz.results12, go_sem, c0, c1, c2, c3, c4, c5]; rfl) rfl ?_
    exact F.out
end Go.Proofs.YtbfgjaammmpcdaaGreatDoor
