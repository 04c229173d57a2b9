/- impl.ListPop. -/
import Derived.Test.YtggpaejlmfppoaaGreatPopDoor
namespace Go.Proofs.YtggpaejlmfppoaaGreat
open Go.RowKit Dig
set_option linter.unusedVariables false
set_option linter.unusedSimpArgs false
set_option maxRecDepth 100000

set_option maxHeartbeats 3200000 in
theorem implListPop_any (xs ats : List Cel) (a : Option Addr) (n c : Nat) (a2 : Option Addr) (n2 c2 : Nat) (w : World) (hv : CeL w w.heap.size (.slice a n c) xs) (hok : ∀ x ∈ xs, x.ok) (hxl : xs.length ≤ 1048576) (hv2 : CeL w w.heap.size (.slice a2 n2 c2) ats) (hok2 : ∀ x ∈ ats, x.ok) (hl2 : ats.length ≤ 1) :
    Calls Tryz.prog 6 #[.slice a n c, .slice a2 n2 c2] w (IlPost xs ats w) := by
  have hb0 : Below w.heap.size w (w.alloc (.cells zeroVal.toArray 27)) := (Below.refl _ _).alloc (Nat.le_refl _) _
  have hk0 := Blk.new w 27 zeroVal
  have C1 := Lib.hid (implListOf_any xs a n c _ ((hv.below hb0).more hb0.size) hok hxl)
  have C2 : Hid (∀ W, Below w.heap.size w W → Calls Tryz.prog 14 #[.slice a2 n2 c2] W (CrsOwn ats W)) := Lib.hid (fun W hb => implBounds_any ats _ W ((hv2.below hb).more hb.size) hok2 (by omega))
  have HOK := Lib.hid hok; have HOK2 := Lib.hid hok2; have HB0 := Lib.hid hb0; have HK0 := Lib.hid hk0
  clear hv hok hv2 hok2 hb0 hk0
  unfold zeroVal at C1 HB0 HK0
  go_enter Tryz.func6, Tryz.ntmps6
  go_wp2_with fail
  refine C1.out.mono ?_
  rintro e w1 ⟨lb, g, rfl, hL, hg, hlb, hb1⟩
  have hB1 := HB0.out.trans (hb1.mono HB0.out.size)
  have C2' := Lib.hid (C2.out w1 hB1)
  have HL1 := Lib.hid hL; have HB1 := Lib.hid hb1; have HBW1 := Lib.hid hB1
  have HG := Lib.hid hg; have HLB := Lib.hid hlb
  clear hL hb1 hB1 C1 C2 hg hlb
  go_wp2_with fail
  refine C2'.out.mono ?_
  rintro e w2 ⟨us, g2, rfl, hg2, hul, hus, huk, hb2⟩
  have hArgs := CrsOwn.args hl2 HOK2.out hul hus huk
  obtain ⟨H, hH⟩ : ∃ H, H = (w.alloc (.cells #[.int .i64 0, .bool false, .slice none 0 0, .int .u64 0, .string ByteArray.empty, .slice none 0 0] 27)).heap.size := ⟨_, rfl⟩
  have hHw : w.heap.size < H := by rw [hH]; simp
  have C3 := Lib.hid (zzPop_any lb g H xs ats _ w2 (HL1.out.below hb2) (by rw [hH]; exact HG.out) (by rw [hH]; exact HLB.out) hArgs hxl)
  have hbH : Below H (w.alloc (.cells #[.int .i64 0, .bool false, .slice none 0 0, .int .u64 0, .string ByteArray.empty, .slice none 0 0] 27)) w2 := by rw [hH]; exact HB1.out.trans (hb2.mono HB1.out.size)
  have HBH := Lib.hid hbH
  have HBW2 := Lib.hid (HBW1.out.trans (hb2.mono HBW1.out.size))
  have HHW := Lib.hid hHw
  clear hg2 hul hus huk hb2 hArgs C2' hbH hHw hH HB1 HL1 HG HLB
  go_wp2_with fail
  refine C3.out.mono ?_
  rintro e w3 ⟨hb3, ⟨k, x, T, y, hp, hx, rfl, hs, hl⟩ | ⟨hp, q, rfl⟩⟩
  · have C4 := Lib.hid (tellScalar_any x T y w3 hs (HOK.out x (List.mem_of_getElem? hx)))
    have hk3 := HK0.out.below (HBH.out.trans hb3) HHW.out
    have hbw3 := HBW2.out.trans (hb3.mono (Nat.le_of_lt HHW.out))
    have HP := Lib.hid hp; have HX := Lib.hid hx; have HL := Lib.hid hl
    have HK3 := Lib.hid hk3; have HBW3 := Lib.hid hbw3
    clear hb3 hp hx hs hl C3 hk3 hbw3
    go_wp2_with fail
    refine C4.out.mono ?_
    rintro e w4 ⟨n', a', l', c', s', rfl, hva, hb4⟩
    have C5 := Lib.hid (elements_any lb g xs.length (xs.eraseIdx k) w4 (HL.out.below hb4) (fun z hz => HOK.out z (List.mem_of_mem_eraseIdx hz)) (by have := List.length_eraseIdx_le xs k; omega))
    have HK4 := Lib.hid (HK3.out.below hb4 HK3.out.lt)
    have HBW4 := Lib.hid (HBW3.out.trans (hb4.mono HBW3.out.size))
    have HVA := Lib.hid hva
    have HS4 : Hid (w.heap.size < w4.heap.size) := Lib.hid (by have := HK3.out.lt; have := hb4.size; omega)
    clear hva hb4 C4 HK3 HBW3 HL
    go_wp2_with fail
    refine C5.out.mono ?_
    rintro e w5 ⟨cc, rfl, hce, hb5⟩
    have hk5 := HK4.out.below hb5 HK4.out.lt
    have hva5 := (HVA.out.below hb5).more hb5.size
    have hbw5 := HBW4.out.trans (hb5.mono HBW4.out.size)
    have FIN : Hid (∀ W, W = ((((((w5.setCell ⟨w.heap.size, 0, none⟩ (.int .i64 x.kind)).setCell ⟨w.heap.size, 1, none⟩ (.bool n')).setCell ⟨w.heap.size, 2, none⟩ (.slice a' l' c')).setCell ⟨w.heap.size, 3, none⟩ (.int .u64 x.bits)).setCell ⟨w.heap.size, 4, none⟩ (.string s')).setCell ⟨w.heap.size, 5, none⟩ (.slice none 0 0)) → IlPost xs ats w (.returned (.tuple #[.agg #[.int .i64 x.kind, .bool n', .slice a' l' c', .int .u64 x.bits, .string s', .slice none 0 0], .slice (some ⟨w4.heap.size, 0, none⟩) (xs.eraseIdx k).length cc, .bool true, .bool true])) W) := Lib.hid (by
      rintro W rfl
      have hu : Up (some w.heap.size) w5 ((((((w5.setCell ⟨w.heap.size, 0, none⟩ (.int .i64 x.kind)).setCell ⟨w.heap.size, 1, none⟩ (.bool n')).setCell ⟨w.heap.size, 2, none⟩ (.slice a' l' c')).setCell ⟨w.heap.size, 3, none⟩ (.int .u64 x.bits)).setCell ⟨w.heap.size, 4, none⟩ (.string s')).setCell ⟨w.heap.size, 5, none⟩ (.slice none 0 0)) := ((((((Up.refl _ _).set 0 _).set 1 _).set 2 _).set 3 _).set 4 _).set 5 _
      refine ⟨hbw5.trans (hu.below hbw5.size (fun k hk => by injection hk with hk; omega)), .inl ⟨k, x, n', a', l', c', s', _, cc, HP.out, HX.out, rfl, hva5.up_far hk5 zero_bv hu, hce.up_far (by have := HS4.out; omega) hk5 zero_bv hu⟩⟩)
    have c0 := hk5.cell 0 (by simp)
    have c1 := hk5.cell 1 (by simp)
    have c2' := hk5.cell 2 (by simp)
    have c3 := hk5.cell 3 (by simp)
    have c4 := hk5.cell 4 (by simp)
    have c5 := hk5.cell 5 (by simp)
    have f0 := hk5.free 0
    have f1 := hk5.free 1
    have f2 := hk5.free 2
    have f3 := hk5.free 3
    have f4 := hk5.free 4
    have f5 := hk5.free 5
    have lk := hk5.lt
    clear hce hb5 hk5 hva5 hbw5 C5 HK4 HBW4 HVA HS4 HP HX
    go_wp2_with fail
    refine bodyPost_ret (v := .tuple #[.agg #[.int .i64 x.kind, .bool n', .slice a' l' c', .int .u64 x.bits, .string s', .slice none 0 0], .slice (some ⟨w4.heap.size, 0, none⟩) (xs.eraseIdx k).length cc, .bool true, .bool true]) (by simp [results, Tryz.results6, go_sem, c0, c1, c2', c3, c4, c5] <;> rfl) rfl ?_
    exact FIN.out _ rfl
  · have hk3 := HK0.out.below (HBH.out.trans hb3) HHW.out
    have hbw3 := HBW2.out.trans (hb3.mono (Nat.le_of_lt HHW.out))
    have FIN : Hid (∀ W, W = ((((((w3.setCell ⟨w.heap.size, 0, none⟩ (.int .i64 0)).setCell ⟨w.heap.size, 1, none⟩ (.bool false)).setCell ⟨w.heap.size, 2, none⟩ (.slice none 0 0)).setCell ⟨w.heap.size, 3, none⟩ (.int .u64 0)).setCell ⟨w.heap.size, 4, none⟩ (.string ByteArray.empty)).setCell ⟨w.heap.size, 5, none⟩ (.slice none 0 0)) → IlPost xs ats w (.returned (.tuple #[.agg #[.int .i64 0, .bool false, .slice none 0 0, .int .u64 0, .string ByteArray.empty, .slice none 0 0], .slice none 0 0, .bool false, .bool true])) W) := Lib.hid (by
      rintro W rfl
      refine ⟨?_, .inr ⟨hp, rfl⟩⟩
      exact (((((hbw3.setCell (p := ⟨_, 0, none⟩) (Nat.le_refl _) _).setCell (p := ⟨_, 1, none⟩) (Nat.le_refl _) _).setCell (p := ⟨_, 2, none⟩) (Nat.le_refl _) _).setCell (p := ⟨_, 3, none⟩) (Nat.le_refl _) _).setCell (p := ⟨_, 4, none⟩) (Nat.le_refl _) _).setCell (p := ⟨_, 5, none⟩) (Nat.le_refl _) _)
    have c0 := hk3.cell 0 (by simp)
    have c1 := hk3.cell 1 (by simp)
    have c2' := hk3.cell 2 (by simp)
    have c3 := hk3.cell 3 (by simp)
    have c4 := hk3.cell 4 (by simp)
    have c5 := hk3.cell 5 (by simp)
    have f0 := hk3.free 0
    have f1 := hk3.free 1
    have f2 := hk3.free 2
    have f3 := hk3.free 3
    have f4 := hk3.free 4
    have f5 := hk3.free 5
    have lk := hk3.lt
    clear hp hb3 hk3 hbw3 C3
    go_wp2_with fail
    refine bodyPost_ret (v := .tuple #[.agg #[.int .i64 0, .bool false, .slice none 0 0, .int .u64 0, .string ByteArray.empty, .slice none 0 0], .slice none 0 0, .bool false, .bool true]) (by simp [results, Tryz.results6, go_sem, c0, c1, c2', c3, c4, c5] <;> rfl) rfl ?_
    exact FIN.out _ rfl
end Go.Proofs.YtggpaejlmfppoaaGreat
