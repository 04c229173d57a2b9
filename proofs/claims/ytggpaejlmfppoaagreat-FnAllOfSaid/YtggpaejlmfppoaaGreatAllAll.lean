/- starlark.all at a list of scalars; ZzAll. -/
import Derived.Test.YtggpaejlmfppoaaGreatAllUnp
import Derived.Test.YtggpaejlmfppoaaGreatAllStar
namespace Go.Proofs.YtggpaejlmfppoaaGreat
open Go.RowKit Dig
set_option linter.unusedVariables false
set_option linter.unusedSimpArgs false
set_option maxRecDepth 100000

def allT (xs : List Cel) : Bool := xs.all Cel.truth
theorem allT_no {xs : List Cel} {k : Nat} {x : Cel} (hx : xs[k]? = some x) (h : x.truth = false) : allT xs = false := by
  unfold allT
  rw [List.all_eq_false]
  exact ⟨x, List.mem_of_getElem? hx, by rw [h]; decide⟩
theorem allT_yes {xs : List Cel} (h : ∀ j x, j < xs.length → xs[j]? = some x → x.truth = true) : allT xs = true := by
  unfold allT
  rw [List.all_eq_true]
  intro x hx
  obtain ⟨j, hj, rfl⟩ := List.mem_iff_getElem.1 hx
  exact h j _ hj (List.getElem?_eq_getElem hj)
/-- what stands while the iterator goes on -/
def AaRel (xs : List Cel) (lb g cap ib xb H B : Nat) (w wr : World) : Prop :=
  ∃ (k : Nat) (v : Value), k ≤ xs.length ∧ (∀ m, v ≠ wv m) ∧ Hid (∀ j x, j < k → xs[j]? = some x → x.truth = true) ∧ Hid (LsN wr lb g cap xs 1) ∧ Hid (Blk wr ib 242 [.pointer (some ⟨lb, 0, none⟩), .int .i64 (k : Int)]) ∧ Hid (Blk wr xb 47 [v]) ∧ Hid (Below H w wr)
set_option maxHeartbeats 3200000 in
theorem all_any (lb g cap H ga ca : Nat) (xs : List Cel) (w : World) (h : Lst w lb g cap xs) (hH : H ≤ lb) (hok : ∀ x ∈ xs, x.ok) (hxl : xs.length ≤ 1048576) (hga : w.cell? ⟨ga, 0, none⟩ = some (.iface 40 (.pointer (some ⟨lb, 0, none⟩)))) :
    Calls Tryz.prog 54 #[.pointer none, .pointer none, .slice (some ⟨ga, 0, none⟩) 1 ca, .slice none 0 0] w fun e w' => e = .returned (.tuple #[.iface 82 (.bool (allT xs)), .nilIface]) ∧ Below H w w' := by
  have hl := h.cells
  have hlb : lb < w.heap.size := hl.2.2.2.2.1
  have hlg : g < w.heap.size := hl.2.2.2.2.2.1
  have UNP : Hid (Calls Tryz.prog 61 #[.string { data := #[97, 108, 108] }, .slice (some ⟨ga, 0, none⟩) 1 ca, .slice none 0 0, .int .i64 1, .slice (some ⟨w.heap.size + 1, 0, none⟩) 1 1]
      ((w.alloc (.cells #[.nilIface] 131)).alloc (.cells #[.iface 132 (.pointer (some ⟨w.heap.size, 0, none⟩))] 20))
      (fun e w' => e = .returned .nilIface ∧ Hid (Lst w' lb g cap xs) ∧ Blk w' w.heap.size 131 [.iface 40 (.pointer (some ⟨lb, 0, none⟩))] ∧ Hid (Below w.heap.size w w'))) := Lib.hid (by
    have hb2 : Below w.heap.size w ((w.alloc (.cells #[.nilIface] 131)).alloc (.cells #[.iface 132 (.pointer (some ⟨w.heap.size, 0, none⟩))] 20)) := ((Below.refl _ _).alloc (Nat.le_refl _) _).alloc (by simp) _
    have k1 : Blk ((w.alloc (.cells #[.nilIface] 131)).alloc (.cells #[.iface 132 (.pointer (some ⟨w.heap.size, 0, none⟩))] 20)) w.heap.size 131 [.nilIface] := (Blk.new w 131 [.nilIface]).alloc _
    have k2 : Blk ((w.alloc (.cells #[.nilIface] 131)).alloc (.cells #[.iface 132 (.pointer (some ⟨w.heap.size, 0, none⟩))] 20)) (w.heap.size + 1) 20 [.iface 132 (.pointer (some ⟨w.heap.size, 0, none⟩))] := by
      have := Blk.new (w.alloc (.cells #[.nilIface] 131)) 20 [.iface 132 (.pointer (some ⟨w.heap.size, 0, none⟩))]
      simpa using this
    refine (unpackPosIter_any _ ga 0 ca (w.heap.size + 1) w.heap.size _ _ _ ((hb2.cell (p := ⟨ga, 0, none⟩) (lt_of_cell hga)).trans hga) k2 k1).mono ?_
    rintro e w' ⟨rfl, rfl⟩
    have hb3 := hb2.setCell (p := ⟨w.heap.size, 0, none⟩) (Nat.le_refl _) (.iface 40 (.pointer (some ⟨lb, 0, none⟩)))
    exact ⟨rfl, Lib.hid (h.below hb3), by simpa using k1.set 0 (.iface 40 (.pointer (some ⟨lb, 0, none⟩))), Lib.hid hb3⟩)
  have IT : Hid (∀ W, Hid (Lst W lb g cap xs) → Calls Tryz.prog 143 #[.pointer (some ⟨lb, 0, none⟩)] W (ItPost xs lb g cap H W)) := Lib.hid (fun W hL => iterate_post lb g cap H xs W hL.out hH)
  have HOK := Lib.hid hok
  have hHw : H ≤ w.heap.size := by omega
  clear h hl hga
  go_enter_defers Tryz.func54, Tryz.ntmps54
  go_wp2_with fail
  refine UNP.out.mono ?_
  rintro e w1 ⟨rfl, HL, hk, HB⟩
  have c0 := hk.cell 0 (by simp)
  have l0 := hk.lt
  have hg1 := HB.out.size
  clear hk UNP
  go_wp2_with fail
  refine (IT.out _ HL).mono ?_
  rintro e w2 ⟨ib, rfl, hls, hib, hge, hb2⟩
  have hil := hib.lt
  have START : Hid (AaRel xs lb g cap ib w2.heap.size H H w (w2.alloc (.cells #[.nilIface] 47))) := Lib.hid (by
    have ha : Below w2.heap.size w2 (w2.alloc (.cells #[.nilIface] 47)) := (Below.refl _ _).alloc (Nat.le_refl _) _
    refine ⟨0, .nilIface, Nat.zero_le _, by simp [wv], Lib.hid (by intro j x hj; omega), Lib.hid (hls.below ha), Lib.hid (hib.below ha hib.lt), Lib.hid (by simpa using Blk.new w2 47 [.nilIface]), Lib.hid ?_⟩
    exact ((HB.out.mono hHw).trans hb2).trans (ha.mono (by omega)))
  have hxg : ib < w2.heap.size := hil
  have hx1 : lb ≠ ib := by omega
  have hx2 : g ≠ ib := by omega
  have hx3 : lb ≠ w2.heap.size := by omega
  have hx4 : g ≠ w2.heap.size := by omega
  have hx5 : ib ≠ w2.heap.size := by omega
  clear hls hib hb2 IT HL c0
  have HOUT : Hid (∀ W W', Below H w W → W' = W.setCell ⟨lb, 2, none⟩ (.int .u32 0) → Below H w W') := Lib.hid (by
    rintro W W' hb rfl
    exact hb.setCell (p := ⟨lb, 2, none⟩) hH _)
  go_wp2_with fail
  go_loopw [] (AaRel xs lb g cap ib w2.heap.size H H w) (fun wr => xs.length - (intOf ((wr.cell? ⟨ib, 1, none⟩).getD undef)).toNat)
  case atStart => exact START.out
  case round =>
    obtain ⟨k, v, hk, hv, HT, HL, HI, HX, HBW⟩ := hrel
    clear START
    rcases Nat.lt_or_ge k xs.length with hlt | hge'
    · obtain ⟨x, hx⟩ : ∃ x, xs[k]? = some x := ⟨_, List.getElem?_eq_getElem hlt⟩
      have CN := Lib.hid (next_post lb g cap k ib w2.heap.size H xs x v wr HL.out hx HI.out HX.out hv hx5 hxl hx1 hx2 hx3 hx4 (by omega) (by omega))
      have HXX := Lib.hid hx
      have MR : Hid (wr.cell? ⟨ib, 1, none⟩ = some (.int .i64 (k : Int))) := Lib.hid (HI.out.cell 1 (by simp))
      have MR : Hid (wr.cell? ⟨ib, 1, none⟩ = some (.int .i64 (k : Int))) := Lib.hid (HI.out.cell 1 (by simp))
      have HOKx := Lib.hid (HOK.out x (List.mem_of_getElem? hx))
      clear hx
      go_wp2_with fail
      refine CN.out.mono ?_
      rintro e w3 ⟨T, y, rfl, hs, hl3, hi3, hx3', hb3⟩
      have HL3 := Lib.hid hl3; have HI3 := Lib.hid hi3; have HX3 := Lib.hid hx3'
      have HB3 := Lib.hid (HBW.out.trans hb3)
      have hsz : w.heap.size ≤ w3.heap.size := by have := hi3.lt; omega
      have c3 := hx3'.cell 0 (by simp)
      have l3 := hx3'.lt
      clear CN hl3 hi3 hx3' hb3 HL HI HX
      cases x with
      | non =>
        obtain ⟨rfl, rfl⟩ : T = 81 ∧ y = .int .u8 0 := by have h : Value.iface T y = _ := hs; simpa using h
        obtain ⟨b, hbq⟩ : ∃ b, b = (Cel.non).truth := ⟨_, rfl⟩
        have CT : Hid (Calls Tryz.prog 150 #[.int .u8 0] w3 (BoPost b w3)) := Lib.hid (by rw [hbq]; exact truthNon_any _ w3)
        have HBQ := Lib.hid hbq
        clear hbq hs
        go_wp2_with fail
        refine CT.out.mono ?_
        rintro e w4 ⟨rfl, hb4⟩
        have HL4 := Lib.hid (HL3.out.below hb4); have HI4 := Lib.hid (HI3.out.below hb4 HI3.out.lt); have HX4 := Lib.hid (HX3.out.below hb4 HX3.out.lt)
        have HB4 := Lib.hid (HB3.out.trans (hb4.mono (by omega)))
        clear hb4 CT c3 HL3 HI3 HX3
        cases b with
        | false =>
          have HA : Hid (allT xs = false) := Lib.hid (allT_no HXX.out HBQ.out.symm)
          go_wp2_with fail
          refine leaves_cons (f := 204) (args := #[.pointer (some ⟨ib, 0, none⟩)]) (by simp) (by kernel_rfl) ?_
          refine (done_deferred lb g cap ib xs .returning _ w4 HL4.out HI4.out).mono ?_
          rintro e u' w'' ⟨rfl, rfl, rfl⟩
          exact ⟨.tuple #[.iface 82 (.bool false), .nilIface], by simp [results, Tryz.results54, go_sem], by rw [HA.out], HOUT.out _ _ HB4.out rfl⟩
        | true =>
          have REL : Hid (AaRel xs lb g cap ib w2.heap.size H H w w4) := Lib.hid ⟨k + 1, _, hlt, by simp [wv], Lib.hid (by
            intro j x hj hx
            rcases Nat.lt_or_ge j k with h | h
            · exact HT.out j x h hx
            · obtain rfl : j = k := by omega
              have e := HXX.out
              rw [hx] at e
              injection e with e
              rw [e]; exact HBQ.out.symm), HL4, HI4, HX4, HB4⟩
          have MS : Hid (w4.cell? ⟨ib, 1, none⟩ = some (.int .i64 ((k + 1 : Nat) : Int)) ∧ wr.cell? ⟨ib, 1, none⟩ = some (.int .i64 (k : Int))) := Lib.hid ⟨HI4.out.cell 1 (by simp), MR.out⟩
          go_wp2_with fail
          go_roundw
          case rel => first | exact REL.out | ((repeat apply Exists.intro); exact ⟨REL.out, rfl⟩)
          case measure => rw [MS.out.1, MS.out.2]; simp [intOf]; omega
      | boo t =>
        obtain ⟨rfl, rfl⟩ : T = 82 ∧ y = .bool t := by have h : Value.iface T y = _ := hs; simpa using h
        obtain ⟨b, hbq⟩ : ∃ b, b = (Cel.boo t).truth := ⟨_, rfl⟩
        have CT : Hid (Calls Tryz.prog 155 #[.bool t] w3 (BoPost b w3)) := Lib.hid (by rw [hbq]; exact truthBoo_any t w3)
        have HBQ := Lib.hid hbq
        clear hbq hs
        go_wp2_with fail
        refine CT.out.mono ?_
        rintro e w4 ⟨rfl, hb4⟩
        have HL4 := Lib.hid (HL3.out.below hb4); have HI4 := Lib.hid (HI3.out.below hb4 HI3.out.lt); have HX4 := Lib.hid (HX3.out.below hb4 HX3.out.lt)
        have HB4 := Lib.hid (HB3.out.trans (hb4.mono (by omega)))
        clear hb4 CT c3 HL3 HI3 HX3
        cases b with
        | false =>
          have HA : Hid (allT xs = false) := Lib.hid (allT_no HXX.out HBQ.out.symm)
          go_wp2_with fail
          refine leaves_cons (f := 204) (args := #[.pointer (some ⟨ib, 0, none⟩)]) (by simp) (by kernel_rfl) ?_
          refine (done_deferred lb g cap ib xs .returning _ w4 HL4.out HI4.out).mono ?_
          rintro e u' w'' ⟨rfl, rfl, rfl⟩
          exact ⟨.tuple #[.iface 82 (.bool false), .nilIface], by simp [results, Tryz.results54, go_sem], by rw [HA.out], HOUT.out _ _ HB4.out rfl⟩
        | true =>
          have REL : Hid (AaRel xs lb g cap ib w2.heap.size H H w w4) := Lib.hid ⟨k + 1, _, hlt, by simp [wv], Lib.hid (by
            intro j x hj hx
            rcases Nat.lt_or_ge j k with h | h
            · exact HT.out j x h hx
            · obtain rfl : j = k := by omega
              have e := HXX.out
              rw [hx] at e
              injection e with e
              rw [e]; exact HBQ.out.symm), HL4, HI4, HX4, HB4⟩
          have MS : Hid (w4.cell? ⟨ib, 1, none⟩ = some (.int .i64 ((k + 1 : Nat) : Int)) ∧ wr.cell? ⟨ib, 1, none⟩ = some (.int .i64 (k : Int))) := Lib.hid ⟨HI4.out.cell 1 (by simp), MR.out⟩
          go_wp2_with fail
          go_roundw
          case rel => first | exact REL.out | ((repeat apply Exists.intro); exact ⟨REL.out, rfl⟩)
          case measure => rw [MS.out.1, MS.out.2]; simp [intOf]; omega
      | int i =>
        obtain ⟨s, q, hq, hin⟩ := hs
        obtain ⟨rfl, rfl⟩ : T = 87 ∧ y = .agg #[.int .i64 s, .pointer q] := by simpa using hq
        obtain ⟨b, hbq⟩ : ∃ b, b = (Cel.int i).truth := ⟨_, rfl⟩
        have CT : Hid (Calls Tryz.prog 161 #[.agg #[.int .i64 s, .pointer q]] w3 (BoPost b w3)) := Lib.hid (by rw [hbq]; exact truthInt_any i s q w3 hin HOKx.out)
        have HBQ := Lib.hid hbq
        clear hbq hin
        go_wp2_with fail
        refine CT.out.mono ?_
        rintro e w4 ⟨rfl, hb4⟩
        have HL4 := Lib.hid (HL3.out.below hb4); have HI4 := Lib.hid (HI3.out.below hb4 HI3.out.lt); have HX4 := Lib.hid (HX3.out.below hb4 HX3.out.lt)
        have HB4 := Lib.hid (HB3.out.trans (hb4.mono (by omega)))
        clear hb4 CT c3 HL3 HI3 HX3
        cases b with
        | false =>
          have HA : Hid (allT xs = false) := Lib.hid (allT_no HXX.out HBQ.out.symm)
          go_wp2_with fail
          refine leaves_cons (f := 204) (args := #[.pointer (some ⟨ib, 0, none⟩)]) (by simp) (by kernel_rfl) ?_
          refine (done_deferred lb g cap ib xs .returning _ w4 HL4.out HI4.out).mono ?_
          rintro e u' w'' ⟨rfl, rfl, rfl⟩
          exact ⟨.tuple #[.iface 82 (.bool false), .nilIface], by simp [results, Tryz.results54, go_sem], by rw [HA.out], HOUT.out _ _ HB4.out rfl⟩
        | true =>
          have REL : Hid (AaRel xs lb g cap ib w2.heap.size H H w w4) := Lib.hid ⟨k + 1, _, hlt, by simp [wv], Lib.hid (by
            intro j x hj hx
            rcases Nat.lt_or_ge j k with h | h
            · exact HT.out j x h hx
            · obtain rfl : j = k := by omega
              have e := HXX.out
              rw [hx] at e
              injection e with e
              rw [e]; exact HBQ.out.symm), HL4, HI4, HX4, HB4⟩
          have MS : Hid (w4.cell? ⟨ib, 1, none⟩ = some (.int .i64 ((k + 1 : Nat) : Int)) ∧ wr.cell? ⟨ib, 1, none⟩ = some (.int .i64 (k : Int))) := Lib.hid ⟨HI4.out.cell 1 (by simp), MR.out⟩
          go_wp2_with fail
          go_roundw
          case rel => first | exact REL.out | ((repeat apply Exists.intro); exact ⟨REL.out, rfl⟩)
          case measure => rw [MS.out.1, MS.out.2]; simp [intOf]; omega
      | flt u =>
        obtain ⟨rfl, rfl⟩ : T = 89 ∧ y = .float .f64 u.toNat := by have h : Value.iface T y = _ := hs; simpa using h
        obtain ⟨b, hbq⟩ : ∃ b, b = (Cel.flt u).truth := ⟨_, rfl⟩
        have CT : Hid (Calls Tryz.prog 168 #[.float .f64 u.toNat] w3 (BoPost b w3)) := Lib.hid (by rw [hbq]; exact truthFlt_any _ w3)
        have HBQ := Lib.hid hbq
        clear hbq hs
        go_wp2_with fail
        refine CT.out.mono ?_
        rintro e w4 ⟨rfl, hb4⟩
        have HL4 := Lib.hid (HL3.out.below hb4); have HI4 := Lib.hid (HI3.out.below hb4 HI3.out.lt); have HX4 := Lib.hid (HX3.out.below hb4 HX3.out.lt)
        have HB4 := Lib.hid (HB3.out.trans (hb4.mono (by omega)))
        clear hb4 CT c3 HL3 HI3 HX3
        cases b with
        | false =>
          have HA : Hid (allT xs = false) := Lib.hid (allT_no HXX.out HBQ.out.symm)
          go_wp2_with fail
          refine leaves_cons (f := 204) (args := #[.pointer (some ⟨ib, 0, none⟩)]) (by simp) (by kernel_rfl) ?_
          refine (done_deferred lb g cap ib xs .returning _ w4 HL4.out HI4.out).mono ?_
          rintro e u' w'' ⟨rfl, rfl, rfl⟩
          exact ⟨.tuple #[.iface 82 (.bool false), .nilIface], by simp [results, Tryz.results54, go_sem], by rw [HA.out], HOUT.out _ _ HB4.out rfl⟩
        | true =>
          have REL : Hid (AaRel xs lb g cap ib w2.heap.size H H w w4) := Lib.hid ⟨k + 1, _, hlt, by simp [wv], Lib.hid (by
            intro j x hj hx
            rcases Nat.lt_or_ge j k with h | h
            · exact HT.out j x h hx
            · obtain rfl : j = k := by omega
              have e := HXX.out
              rw [hx] at e
              injection e with e
              rw [e]; exact HBQ.out.symm), HL4, HI4, HX4, HB4⟩
          have MS : Hid (w4.cell? ⟨ib, 1, none⟩ = some (.int .i64 ((k + 1 : Nat) : Int)) ∧ wr.cell? ⟨ib, 1, none⟩ = some (.int .i64 (k : Int))) := Lib.hid ⟨HI4.out.cell 1 (by simp), MR.out⟩
          go_wp2_with fail
          go_roundw
          case rel => first | exact REL.out | ((repeat apply Exists.intro); exact ⟨REL.out, rfl⟩)
          case measure => rw [MS.out.1, MS.out.2]; simp [intOf]; omega
      | str s =>
        obtain ⟨rfl, rfl⟩ : T = 91 ∧ y = .string s := by have h : Value.iface T y = _ := hs; simpa using h
        obtain ⟨b, hbq⟩ : ∃ b, b = (Cel.str s).truth := ⟨_, rfl⟩
        have CT : Hid (Calls Tryz.prog 173 #[.string s] w3 (BoPost b w3)) := Lib.hid (by rw [hbq]; exact truthStr_any s w3)
        have HBQ := Lib.hid hbq
        clear hbq hs
        go_wp2_with fail
        refine CT.out.mono ?_
        rintro e w4 ⟨rfl, hb4⟩
        have HL4 := Lib.hid (HL3.out.below hb4); have HI4 := Lib.hid (HI3.out.below hb4 HI3.out.lt); have HX4 := Lib.hid (HX3.out.below hb4 HX3.out.lt)
        have HB4 := Lib.hid (HB3.out.trans (hb4.mono (by omega)))
        clear hb4 CT c3 HL3 HI3 HX3
        cases b with
        | false =>
          have HA : Hid (allT xs = false) := Lib.hid (allT_no HXX.out HBQ.out.symm)
          go_wp2_with fail
          refine leaves_cons (f := 204) (args := #[.pointer (some ⟨ib, 0, none⟩)]) (by simp) (by kernel_rfl) ?_
          refine (done_deferred lb g cap ib xs .returning _ w4 HL4.out HI4.out).mono ?_
          rintro e u' w'' ⟨rfl, rfl, rfl⟩
          exact ⟨.tuple #[.iface 82 (.bool false), .nilIface], by simp [results, Tryz.results54, go_sem], by rw [HA.out], HOUT.out _ _ HB4.out rfl⟩
        | true =>
          have REL : Hid (AaRel xs lb g cap ib w2.heap.size H H w w4) := Lib.hid ⟨k + 1, _, hlt, by simp [wv], Lib.hid (by
            intro j x hj hx
            rcases Nat.lt_or_ge j k with h | h
            · exact HT.out j x h hx
            · obtain rfl : j = k := by omega
              have e := HXX.out
              rw [hx] at e
              injection e with e
              rw [e]; exact HBQ.out.symm), HL4, HI4, HX4, HB4⟩
          have MS : Hid (w4.cell? ⟨ib, 1, none⟩ = some (.int .i64 ((k + 1 : Nat) : Int)) ∧ wr.cell? ⟨ib, 1, none⟩ = some (.int .i64 (k : Int))) := Lib.hid ⟨HI4.out.cell 1 (by simp), MR.out⟩
          go_wp2_with fail
          go_roundw
          case rel => first | exact REL.out | ((repeat apply Exists.intro); exact ⟨REL.out, rfl⟩)
          case measure => rw [MS.out.1, MS.out.2]; simp [intOf]; omega
      | byt s =>
        obtain ⟨rfl, rfl⟩ : T = 92 ∧ y = .string s := by have h : Value.iface T y = _ := hs; simpa using h
        obtain ⟨b, hbq⟩ : ∃ b, b = (Cel.byt s).truth := ⟨_, rfl⟩
        have CT : Hid (Calls Tryz.prog 178 #[.string s] w3 (BoPost b w3)) := Lib.hid (by rw [hbq]; exact truthByt_any s w3)
        have HBQ := Lib.hid hbq
        clear hbq hs
        go_wp2_with fail
        refine CT.out.mono ?_
        rintro e w4 ⟨rfl, hb4⟩
        have HL4 := Lib.hid (HL3.out.below hb4); have HI4 := Lib.hid (HI3.out.below hb4 HI3.out.lt); have HX4 := Lib.hid (HX3.out.below hb4 HX3.out.lt)
        have HB4 := Lib.hid (HB3.out.trans (hb4.mono (by omega)))
        clear hb4 CT c3 HL3 HI3 HX3
        cases b with
        | false =>
          have HA : Hid (allT xs = false) := Lib.hid (allT_no HXX.out HBQ.out.symm)
          go_wp2_with fail
          refine leaves_cons (f := 204) (args := #[.pointer (some ⟨ib, 0, none⟩)]) (by simp) (by kernel_rfl) ?_
          refine (done_deferred lb g cap ib xs .returning _ w4 HL4.out HI4.out).mono ?_
          rintro e u' w'' ⟨rfl, rfl, rfl⟩
          exact ⟨.tuple #[.iface 82 (.bool false), .nilIface], by simp [results, Tryz.results54, go_sem], by rw [HA.out], HOUT.out _ _ HB4.out rfl⟩
        | true =>
          have REL : Hid (AaRel xs lb g cap ib w2.heap.size H H w w4) := Lib.hid ⟨k + 1, _, hlt, by simp [wv], Lib.hid (by
            intro j x hj hx
            rcases Nat.lt_or_ge j k with h | h
            · exact HT.out j x h hx
            · obtain rfl : j = k := by omega
              have e := HXX.out
              rw [hx] at e
              injection e with e
              rw [e]; exact HBQ.out.symm), HL4, HI4, HX4, HB4⟩
          have MS : Hid (w4.cell? ⟨ib, 1, none⟩ = some (.int .i64 ((k + 1 : Nat) : Int)) ∧ wr.cell? ⟨ib, 1, none⟩ = some (.int .i64 (k : Int))) := Lib.hid ⟨HI4.out.cell 1 (by simp), MR.out⟩
          go_wp2_with fail
          go_roundw
          case rel => first | exact REL.out | ((repeat apply Exists.intro); exact ⟨REL.out, rfl⟩)
          case measure => rw [MS.out.1, MS.out.2]; simp [intOf]; omega
    · obtain rfl : k = xs.length := by omega
      have CN := Lib.hid (next_no lb g cap ib xs 1 (.pointer (some ⟨w2.heap.size, 0, none⟩)) wr HL.out HI.out)
      have HA : Hid (allT xs = true) := Lib.hid (allT_yes HT.out)
      have hszr : w.heap.size ≤ wr.heap.size := by have := HI.out.lt; omega
      clear HT
      go_wp2_with fail
      refine CN.out.mono ?_
      rintro e w3 ⟨rfl, hb3⟩
      have HL4 := Lib.hid (HL.out.below hb3); have HI4 := Lib.hid (HI.out.below hb3 HI.out.lt)
      have HB4 := Lib.hid (HBW.out.trans (hb3.mono (by omega)))
      clear hb3 CN HL HI HX
      go_wp2_with fail
      refine leaves_cons (f := 204) (args := #[.pointer (some ⟨ib, 0, none⟩)]) (by simp) (by kernel_rfl) ?_
      refine (done_deferred lb g cap ib xs .returning _ w3 HL4.out HI4.out).mono ?_
      rintro e u' w'' ⟨rfl, rfl, rfl⟩
      exact ⟨.tuple #[.iface 82 (.bool true), .nilIface], by simp [results, Tryz.results54, go_sem], by rw [HA.out], HOUT.out _ _ HB4.out rfl⟩
end Go.Proofs.YtggpaejlmfppoaaGreat
