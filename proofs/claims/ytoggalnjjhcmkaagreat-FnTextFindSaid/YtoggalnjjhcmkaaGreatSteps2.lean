/- spec.Steps32, walked. -/
import Derived.Test.YtoggalnjjhcmkaaGreatSteps
import Derived.Test.YtoggalnjjhcmkaaGreatIntValF
import Derived.Test.YtoggalnjjhcmkaaGreatImpl
namespace Go.Proofs.YtoggalnjjhcmkaaGreat
open Go.RowKit Dig
set_option linter.unusedVariables false
set_option linter.unusedSimpArgs false
set_option maxRecDepth 100000

theorem stepOf_kind (k i : Int) : (stepOf k i).kind = if k = 2 then 2 else if k = 4 then 4 else 0 := by
  unfold stepOf
  split
  · rfl
  · split <;> rfl
/-- a value that stands for a scalar, its memory new -/
def StPost (x : Scal) (w : World) (e : Ending) (w' : World) : Prop :=
  ∃ n a l c s, e = .returned (.agg #[.int .i64 x.kind, .bool n, .slice a l c, .int .u64 0, .string s, .slice none 0 0]) ∧ VaS w' w'.heap.size (.agg #[.int .i64 x.kind, .bool n, .slice a l c, .int .u64 0, .string s, .slice none 0 0]) x ∧ Below w.heap.size w w' ∧ ∀ y, a = some y → w.heap.size ≤ y.block
set_option maxHeartbeats 1600000 in
theorem steps32_any (k : Int) (n : Bool) (mag : Value) (u : Int) (s : ByteArray) (ka : Option Addr) (kn kc : Nat) (ms : List Nat) (w : World) (hms : ∀ x ∈ ms, x < 256) (hlen : ms.length ≤ 140737488355328) (hm : Sl w w.heap.size mag (ms.map bv)) :
    Calls Tryz.prog 8 #[.agg #[.int .i64 k, .bool n, mag, .int .u64 u, .string s, .slice ka kn kc]] w (StPost (stepOf k (rawI n ms)) w) := by
  obtain ⟨ma, mc, rfl, _⟩ := id hm
  have hm' := hm
  clear hm
  obtain ⟨W0, hW0⟩ : ∃ W0, W0 = (w.alloc (.cells #[.int .i64 k, .bool n, .slice ma (ms.map bv).length mc, .int .u64 u, .string s, .slice ka kn kc] 26)).alloc (.cells #[.int .i64 0, .bool false, .slice none 0 0, .int .u64 0, .string ByteArray.empty, .slice none 0 0] 26) := ⟨_, rfl⟩
  have hb0 : Below w.heap.size w W0 := by rw [hW0]; exact ((Below.refl _ _).alloc (Nat.le_refl _) _).alloc (by simp) _
  have hZ : Blk W0 (w.heap.size + 1) 26 zeroVal := by
    rw [hW0]
    have := Blk.new (w.alloc (.cells #[.int .i64 k, .bool n, .slice ma (ms.map bv).length mc, .int .u64 u, .string s, .slice ka kn kc] 26)) 26 zeroVal
    simpa [zeroVal] using this
  have HB0 := Lib.hid hb0
  have HZ := Lib.hid hZ
  clear hZ
  by_cases h2 : k = 2
  · subst h2
    have hst : stepOf 2 (rawI n ms) = .int (wrap32 (n64 (rawI n ms))) := by unfold stepOf; rw [if_pos rfl]
    rw [hst]
    have C := Lib.hid (numRaw_any 2 n _ u s ka kn kc ms W0 hms hlen ((hm'.below hb0).more hb0.size))
    have HF := Lib.hid (rawI_fit n ms hms hlen)
    generalize rawI n ms = i at *
    generalize (ms.map bv).length = L at *
    clear hm' hms hst hb0
    subst hW0
    go_enter Tryz.func8, Tryz.ntmps8
    go_wp2_with fail
    refine C.out.mono ?_
    rintro e w1 ⟨v, rfl, hs, hb2⟩
    have D := Lib.hid (specInt64_anyX i v w1 hs HF.out)
    obtain ⟨q, p, k2, c2, rfl⟩ := hs.form
    clear hs C
    go_wp2_with fail
    refine D.out.mono ?_
    rintro e w2 ⟨rfl, hb3⟩
    have hn : (if fits64 i then i else 0) = n64 i := rfl
    rw [hn]
    obtain ⟨j, hj⟩ : ∃ j, j = wrap32 (n64 i) := ⟨_, rfl⟩
    obtain ⟨j1, j2⟩ := wrap32_bd (n64 i)
    rw [← hj] at j1 j2
    have HJ := Lib.hid hj
    have HB3 := Lib.hid ((HB0.out.trans (hb2.mono HB0.out.size)).trans (hb3.mono (HB0.out.trans (hb2.mono HB0.out.size)).size))
    have SM := Lib.hid (small_any j w2 (by omega) (by omega))
    have KZ := Lib.hid ((HZ.out.below hb2 HZ.out.lt).below hb3 (HZ.out.below hb2 HZ.out.lt).lt)
    clear hj hb2 hb3 D HF HZ HB0
    go_wp2_with fail
    rw [wrap64_32, ← HJ.out]
    refine SM.out.mono ?_
    rintro e w3 ⟨v3, rfl, hs3, hb4⟩
    have IV := Lib.hid (intValF_any v3 j w3 hs3 (small_lim j (by omega) (by omega)))
    obtain ⟨q3, p3, k3, c3, rfl⟩ := hs3.form
    have HB4 := Lib.hid (HB3.out.trans (hb4.mono HB3.out.size))
    have KZ4 := Lib.hid (KZ.out.below hb4 KZ.out.lt)
    clear hs3 hb4 SM HB3 KZ
    go_wp2_with fail
    refine IV.out.mono ?_
    rintro e w4 ⟨nn, a, l, c, rfl, hva, hb5, hfr⟩
    have hk := KZ4.out.below hb5 KZ4.out.lt
    have hb6 := HB4.out.trans (hb5.mono HB4.out.size)
    have FIN : Hid (StPost (.int j) w (.returned (.agg #[.int .i64 2, .bool nn, .slice a l c, .int .u64 0, .string ByteArray.empty, .slice none 0 0])) ((((((w4.setCell ⟨w.heap.size + 1, 0, none⟩ (.int .i64 2)).setCell ⟨w.heap.size + 1, 1, none⟩ (.bool nn)).setCell ⟨w.heap.size + 1, 2, none⟩ (.slice a l c)).setCell ⟨w.heap.size + 1, 3, none⟩ (.int .u64 0)).setCell ⟨w.heap.size + 1, 4, none⟩ (.string ByteArray.empty)).setCell ⟨w.heap.size + 1, 5, none⟩ (.slice none 0 0))) := Lib.hid (by
      obtain ⟨mg, e1, hby⟩ := hva
      simp only [Value.agg.injEq, Array.mk.injEq, List.cons.injEq, Value.bool.injEq, true_and, and_true] at e1
      obtain ⟨rfl, rfl⟩ := e1
      obtain ⟨v5, e5, g1, g2⟩ := Va.store hby rfl hk hb6 (by omega)
      injection e5 with e5
      subst e5
      exact ⟨_, a, l, c, _, rfl, g1, g2, fun y hy => Nat.le_trans HB4.out.size (hfr y hy)⟩)
    obtain ⟨q0, q1, q2, q3', q4, q5⟩ := zero_cells hk
    have fz := hk.free
    have f0 := fz 0
    have f1 := fz 1
    have f2 := fz 2
    have f3 := fz 3
    have f4 := fz 4
    have f5 := fz 5
    have hlt := hk.lt
    clear hva hb5 hfr hk hb6 fz IV HB4 KZ4
    go_wp2_with fail
    refine bodyPost_ret (v := .agg #[.int .i64 2, .bool nn, .slice a l c, .int .u64 0, .string ByteArray.empty, .slice none 0 0]) (by simp [results, Tryz.results8, go_sem, q0, q1, q2, q3', q4, q5]) rfl ?_
    have e1 := FIN.out
    rw [HJ.out] at e1
    exact e1
  · by_cases h4 : k = 4
    · subst h4
      have hst : stepOf 4 (rawI n ms) = .str ByteArray.empty := by unfold stepOf; rw [if_neg (by omega), if_pos rfl]
      rw [hst]
      have TV : Hid (∀ s W, Below w.heap.size w W → Calls Tryz.prog 22 #[.string s] W (fun e w' => e = .returned (.agg #[.int .i64 4, .bool false, .slice none 0 0, .int .u64 0, .string s, .slice none 0 0]) ∧ Below w.heap.size w w' ∧ Below W.heap.size W w')) := Lib.hid (fun s W h => (textVal_any s W).mono (by rintro e w' ⟨rfl, hb⟩; exact ⟨rfl, h.trans (hb.mono h.size), hb⟩))
      generalize (ms.map bv).length = L at *
      clear hm' hms hst h2
      subst hW0
      go_enter Tryz.func8, Tryz.ntmps8
      go_wp2_with fail
      refine (TV.out _ _ HB0.out).mono ?_
      rintro e w4 ⟨rfl, hb4, hb5⟩
      have hk := HZ.out.below hb5 HZ.out.lt
      have HB4 := Lib.hid (((((((hb4.setCell (p := ⟨w.heap.size + 1, 0, none⟩) (by simp) (.int .i64 4)).setCell (p := ⟨w.heap.size + 1, 1, none⟩) (by simp) (.bool false)).setCell (p := ⟨w.heap.size + 1, 2, none⟩) (by simp) (.slice none 0 0)).setCell (p := ⟨w.heap.size + 1, 3, none⟩) (by simp) (.int .u64 0)).setCell (p := ⟨w.heap.size + 1, 4, none⟩) (by simp) (.string ByteArray.empty)).setCell (p := ⟨w.heap.size + 1, 5, none⟩) (by simp) (.slice none 0 0)))
      obtain ⟨q0, q1, q2, q3', q4, q5⟩ := zero_cells hk
      have fz := hk.free
      have f0 := fz 0
      have f1 := fz 1
      have f2 := fz 2
      have f3 := fz 3
      have f4 := fz 4
      have f5 := fz 5
      have hlt := hk.lt
      clear hb4 hb5 hk fz TV HZ HB0
      go_wp2_with fail
      refine bodyPost_ret (v := .agg #[.int .i64 4, .bool false, .slice none 0 0, .int .u64 0, .string ByteArray.empty, .slice none 0 0]) (by simp [results, Tryz.results8, go_sem, q0, q1, q2, q3', q4, q5]; rfl) rfl ?_
      exact ⟨_, none, 0, 0, _, rfl, rfl, HB4.out, fun y hy => by cases hy⟩
    · have hst : stepOf k (rawI n ms) = .non := by unfold stepOf; rw [if_neg h2, if_neg h4]
      rw [hst]
      have q1 : (k == 2) = false := by simp [h2]
      have q2 : (k == 4) = false := by simp [h4]
      generalize (ms.map bv).length = L at *
      clear hm' hms hst h2 h4 HZ
      subst hW0
      go_enter Tryz.func8, Tryz.ntmps8
      go_wp2_with fail
      refine bodyPost_ret (v := .agg #[.int .i64 0, .bool false, .slice none 0 0, .int .u64 0, .string ByteArray.empty, .slice none 0 0]) (by simp [results, Tryz.results8, go_sem]; rfl) rfl ?_
      exact ⟨_, none, 0, 0, _, rfl, rfl, HB0.out, fun y hy => by cases hy⟩
end Go.Proofs.YtoggalnjjhcmkaaGreat
