/- spec.Valid, walked (printed by genval.py). -/
import Derived.Test.YtoghnefgflkpdaaDoorQuo
import Derived.Test.YtoghnefgflkpdaaDoorVMath
namespace Go.Proofs.YtoghnefgflkpdaaDoor
open Go.RowKit
set_option linter.unusedVariables false
set_option linter.unusedSimpArgs false
set_option maxRecDepth 1000000

/-- bytes as numbers -/
def bz (l : List UInt8) : List Int := l.map fun x => (x.toNat : Int)
theorem bz_length (l : List UInt8) : (bz l).length = l.length := by simp [bz]
theorem strOfNums_bz (l : List UInt8) : strOfNums (bz l) = ⟨l.toArray⟩ := by
  simp [strOfNums, bz, Function.comp_def]
theorem strCells_bz (s : ByteArray) : Lib.strCells s = Lib.intCells (bz s.data.toList) := by
  simp [Lib.strCells, Lib.intCells, bz]
theorem dataQ (s : ByteArray) (a b : Nat) : (s.extract a b).data.toList = (s.data.toList.drop a).take (b - a) := by
  simp [ByteArray.data_extract, Array.toList_extract, List.extract_eq_take_drop]

set_option maxHeartbeats 8000000 in
theorem valid_any (s : ByteArray) (w : World) (hs : s.size ≤ 2147483647) (hU : Lib.Utf8Tabs (ren197.g 3) (ren197.g 4) w) :
    Calls Tryd.prog 6 #[.string s] w fun e w' => e = .returned (.string ⟨(vl s.data.toList).toArray⟩) ∧ Below w.heap.size w w' := by
  obtain ⟨i0, hi, hz0, hz1, hz2⟩ := info_parts (P := Tryd.prog) (e := 5) (z := .int .u8 0) (size := 1) (bytes := 1) (by kernel_rfl)
  have HU := Lib.hid hU
  clear hU
  go_enter Tryd.func6, Tryd.ntmps6
  go_wp2_with fail
  go_loopw [3, 4] (fun v i wr => ∃ (k : Nat) (l : List UInt8), i = .int .i64 k ∧ k ≤ s.size ∧ Hid (Lib.OwnBuf w.heap.size 5 v l.length (Lib.intCells (bz l)) w wr) ∧ Hid (l ++ vl (s.data.toList.drop k) = vl s.data.toList) ∧ l.length ≤ k)
    (fun _ i _ => s.size - (intOf i).toNat)
  case atStart => exact ⟨0, [], rfl, Nat.zero_le _, ⟨World.ownsRowF_nil _ _ _ _, Below.refl _ _, Nat.le_refl _⟩, by show _ = _; simp, Nat.le_refl _⟩
  case round =>
    obtain ⟨k, l, rfl, hk, hob, heq, hl⟩ := hrel
    by_cases h0 : k < s.size
    · have h0' : (k : Int) < (s.size : Int) := by omega
      have hkI : (k : Int) ≤ (s.size : Int) := by omega
      have hne : s.data.toList.drop k ≠ [] := by
        intro e
        have := congrArg List.length e
        rw [List.length_drop, ← Lib.size_eq] at this
        simp at this; omega
      have hrd : (s.extract k s.size).data.toList = s.data.toList.drop k := by
        rw [dataQ, List.take_of_length_le]; rw [List.length_drop, Lib.size_eq]; exact Nat.le_refl _
      have hd := decodeRune_q (s.extract k s.size) wr (Utf8Tabs_below HU.out hob.out.2.1)
      have hdec : Lib.decodeGo (s.extract k s.size) = Lib.decodeL (s.data.toList.drop k) := by
        unfold Lib.decodeGo
        rw [if_neg (by simp [ByteArray.size_extract]; omega)]
        have := Lib.decodeL_drop (s.extract k s.size) 0
        rw [List.drop_zero, hrd] at this
        exact this.symm
      rw [hdec] at hd
      have hw1 := Lib.decodeL_width (s.data.toList.drop k)
      have hw2 := Lib.decodeL_le (s.data.toList.drop k) hne
      rw [List.length_drop, ← Lib.size_eq] at hw2
      have hgood := vl_good (s.data.toList.drop k) hne
      have hbad := vl_bad (s.data.toList.drop k) hne
      obtain ⟨r, hr⟩ : ∃ r : Int, r = ((Lib.decodeL (s.data.toList.drop k)).1 : Int) := ⟨_, rfl⟩
      obtain ⟨K, hK⟩ : ∃ K, K = (Lib.decodeL (s.data.toList.drop k)).2 := ⟨_, rfl⟩
      rw [← hr, ← hK] at hd
      rw [← hK] at hw1 hw2 hgood hbad
      have hsum : IntKind.i64.wrap ((k : Int) + (K : Int)) = (k : Int) + (K : Int) := by unfold IntKind.wrap; simp [IntKind.bits, IntKind.signed]; omega
      have hb0 := hob.out
      have HD := Lib.hid hd
      by_cases hB : r = 65533 ∧ K < 2
      · have hst := Lib.hid (hbad (by omega))
        obtain ⟨hB1, hB2⟩ := hB
        have hB2' : (K : Int) < 2 := by omega
        clear hd hdec hrd hne hgood hbad hr hK
        subst hB1
        go_wp2_with (first | (go_at_call 9; refine HD.out.mono ?_; rintro e w1 ⟨rfl, hbl⟩; have hb := Go.Proofs.buf_below hb0 hbl; clear hb0 hbl) | (at_builtin; first | (refine Lib.wpList_append_byte rfl _ _ 27 rfl w.heap.size 5 i0 Tryd.underlying27 hi hz0 hz1 hz2 _ _ _ rfl w _ _ (by exact hb) rfl (by first | omega | (simp only [Lib.size_two]; omega)) ?_; intro _ _ hb) | (refine Lib.wpList_append_text rfl _ _ 27 9 rfl w.heap.size 5 i0 Tryd.underlying27 Tryd.underlying9 hi hz0 hz1 hz2 _ _ _ rfl w (by exact hb) _ rfl (by simp [ByteArray.size_extract]; omega) ?_; intro _ _ hb)))
        go_roundw
        case rel =>
          refine ⟨k + K, l ++ [63], by simp, by omega, ownBuf_cast hb ?_ ?_, ?_, by simp; omega⟩
          · simp
          · simp [bz, Lib.intCells]
          · show _ = _
            rw [← heq.out, hst.out, List.drop_drop, List.append_assoc]; rfl
        case measure => simp [intOf]; omega
      · have hst := Lib.hid (hgood (by omega))
        have hKs : (k : Int) + (K : Int) ≤ (s.size : Int) := by omega
        have hKs0 : (k : Int) ≤ (k : Int) + (K : Int) := by omega
        have hsl : ((s.data.toList.drop k).take K).length = (s.extract k (k + K)).size := by
          rw [Lib.size_eq, dataQ, Nat.add_sub_cancel_left]
        have hse : (s.extract k (k + K)).size = K := by rw [ByteArray.size_extract]; omega
        have Hsl := Lib.hid hsl
        have Hse := Lib.hid hse
        clear hd hdec hrd hne hgood hbad hK hsl hse
        by_cases hB1 : r = 65533
        · have hB2 : ¬ (K : Int) < 2 := by omega
          clear hr hB
          subst hB1
          go_wp2_with (first | (go_at_call 9; refine HD.out.mono ?_; rintro e w1 ⟨rfl, hbl⟩; have hb := Go.Proofs.buf_below hb0 hbl; clear hb0 hbl) | (at_builtin; first | (refine Lib.wpList_append_byte rfl _ _ 27 rfl w.heap.size 5 i0 Tryd.underlying27 hi hz0 hz1 hz2 _ _ _ rfl w _ _ (by exact hb) rfl (by first | omega | (simp only [Lib.size_two]; omega)) ?_; intro _ _ hb) | (refine Lib.wpList_append_text rfl _ _ 27 9 rfl w.heap.size 5 i0 Tryd.underlying27 Tryd.underlying9 hi hz0 hz1 hz2 _ _ _ rfl w (by exact hb) _ rfl (by simp [ByteArray.size_extract]; omega) ?_; intro _ _ hb)))
          have hsl := Hsl.out
          go_roundw
          case rel =>
            refine ⟨k + K, l ++ (s.data.toList.drop k).take K, by simp, by omega, ownBuf_cast hb ?_ ?_, ?_, by rw [List.length_append, List.length_take]; omega⟩
            · rw [List.length_append, hsl]
            · rw [strCells_bz, dataQ, Nat.add_sub_cancel_left]; simp [bz, Lib.intCells]
            · show _ = _
              rw [← heq.out, hst.out, List.drop_drop, List.append_assoc]
          case measure => simp [intOf]; omega
        · clear hr hB
          go_wp2_with (first | (go_at_call 9; refine HD.out.mono ?_; rintro e w1 ⟨rfl, hbl⟩; have hb := Go.Proofs.buf_below hb0 hbl; clear hb0 hbl) | (at_builtin; first | (refine Lib.wpList_append_byte rfl _ _ 27 rfl w.heap.size 5 i0 Tryd.underlying27 hi hz0 hz1 hz2 _ _ _ rfl w _ _ (by exact hb) rfl (by first | omega | (simp only [Lib.size_two]; omega)) ?_; intro _ _ hb) | (refine Lib.wpList_append_text rfl _ _ 27 9 rfl w.heap.size 5 i0 Tryd.underlying27 Tryd.underlying9 hi hz0 hz1 hz2 _ _ _ rfl w (by exact hb) _ rfl (by simp [ByteArray.size_extract]; omega) ?_; intro _ _ hb)))
          have hsl := Hsl.out
          go_roundw
          case rel =>
            refine ⟨k + K, l ++ (s.data.toList.drop k).take K, by simp, by omega, ownBuf_cast hb ?_ ?_, ?_, by rw [List.length_append, List.length_take]; omega⟩
            · rw [List.length_append, hsl]
            · rw [strCells_bz, dataQ, Nat.add_sub_cancel_left]; simp [bz, Lib.intCells]
            · show _ = _
              rw [← heq.out, hst.out, List.drop_drop, List.append_assoc]
          case measure => simp [intOf]; omega
    · have h0' : ¬ (k : Int) < (s.size : Int) := by omega
      have hke : vl s.data.toList = l := by
        rw [← heq.out, List.drop_eq_nil_of_le (by rw [← Lib.size_eq]; omega), vl_nil, List.append_nil]
      have hBl := hob.out.2.1
      have Hke := Lib.hid hke
      by_cases hl0 : 0 < l.length
      · obtain ⟨g, cap, rfl, hcells⟩ := buf_cells (l := bz l) (by rw [bz_length]; simpa using hob.out) (by rw [bz_length]; exact hl0)
        have hcv := run_convert_bytes_arg (P := Tryd.prog) wr 27 5 Tryd.underlying27 Tryd.underlying5 g 0 _ cap (bz l) rfl hcells 9 Tryd.underlying9
        rw [strOfNums_bz] at hcv
        have HB := Lib.hid hBl
        clear hBl hob hcells heq hke
        go_wp2_with fail
        go_ret
        exact ⟨by rw [Hke.out]; rfl, HB.out⟩
      · have hln : l = [] := List.eq_nil_of_length_eq_zero (by omega)
        subst hln
        rcases hob.out.1.2 with ⟨rfl, _⟩ | ⟨g, cap, cur, fz, rfl, _⟩
        · have HB := Lib.hid hBl
          have hcv := run_convert_bytes_nil (P := Tryd.prog) wr 27 5 Tryd.underlying27 Tryd.underlying5 0 0 9 Tryd.underlying9
          clear hBl hob heq hke
          go_wp2_with fail
          go_ret
          exact ⟨by rw [Hke.out]; rfl, HB.out⟩
        · have HB := Lib.hid hBl
          have hcv := run_convert_bytes_arg (P := Tryd.prog) wr 27 5 Tryd.underlying27 Tryd.underlying5 g 0 0 cap [] rfl (by intro i hi; omega) 9 Tryd.underlying9
          have e0 : strOfNums [] = (⟨#[]⟩ : ByteArray) := rfl
          rw [e0] at hcv
          clear hBl hob heq hke
          go_wp2_with fail
          go_ret
          exact ⟨by rw [Hke.out]; rfl, HB.out⟩

end Go.Proofs.YtoghnefgflkpdaaDoor
