/- (*Int).SetBytes, Neg, impl.whole: an impl.Val as an integer of the package. -/
import Derived.Test.YtbfgjaammmpcdaaGreatDoorWhole
namespace Go.Proofs.YtbfgjaammmpcdaaGreatDoor
open Go.RowKit Dig
set_option linter.unusedVariables false
set_option linter.unusedSimpArgs false
set_option maxRecDepth 100000

theorem Dig.Bytes.bval {ms : List Nat} {m : Nat} (h : Bytes ms m) : Dig.bval ms = m := Rep.val h

set_option maxHeartbeats 800000 in
theorem SetBytes_any (z : Nat) (m : Nat) (buf : Value) (w : World) (hz : Blk w z 71 [.bool false, .slice none 0 0]) (hs : By w w.heap.size buf m) (hl : m < lim) :
    Calls Tryz.prog 33 #[.pointer (some ⟨z, 0, none⟩), buf] w (PutPost z (m : Int) w) := by
  obtain ⟨ms, hm, hs⟩ := hs
  have hlen := hm.length_le hl
  have z0 : w.cell? ⟨z, 0, none⟩ = some (.bool false) := hz.cell 0 (by simp)
  have z1 : w.cell? ⟨z, 1, none⟩ = some (.slice none 0 0) := hz.cell 1 (by simp)
  have g0 := hz.free 0
  have g1 := hz.free 1
  have hzl := hz.lt
  have C := setBytes_any ms buf w hm.lt hs (by omega)
  rw [hm.bval] at C
  have CORE := Lib.hid C
  have HZ := Lib.hid hz
  clear hs hm hz hlen C
  go_enter Tryz.func33, Tryz.ntmps33
  go_wp2_with fail
  refine CORE.out.mono ?_
  rintro e w1 ⟨v, rfl, ⟨xs, hr, hs1⟩, hb1⟩
  have y0 : w1.cell? ⟨z, 0, none⟩ = some (.bool false) := (hb1.cell (p := ⟨z, 0, none⟩) hzl).trans z0
  have y1 : w1.cell? ⟨z, 1, none⟩ = some (.slice none 0 0) := (hb1.cell (p := ⟨z, 1, none⟩) hzl).trans z1
  have f0 : w1.frozen? ⟨z, 0, none⟩ = false := (hb1.frozen (p := ⟨z, 0, none⟩) hzl).trans g0
  have f1 : w1.frozen? ⟨z, 1, none⟩ = false := (hb1.frozen (p := ⟨z, 1, none⟩) hzl).trans g1
  have F := Lib.hid (put_fin (i := (m : Int)) HZ.out rfl (by simp [wv]) hr hs1 hb1)
  obtain ⟨av, cv, rfl, hcv, hrv⟩ := id hs1
  rw [show decide ((m : Int) < 0) = false by simp] at F
  clear hrv hs1 hb1 hr
  rw [List.length_map] at F
  go_wp2
  go_ret
  exact F.out

set_option maxHeartbeats 800000 in
theorem Neg_same (z : Nat) (i : Int) (w : World) (hx : Bg w w.heap.size (some ⟨z, 0, none⟩) i) :
    Calls Tryz.prog 34 #[.pointer (some ⟨z, 0, none⟩), .pointer (some ⟨z, 0, none⟩)] w (PutPost z (-i) w) := by
  obtain ⟨b, abs, hbb, hb, hk, xs, hr, hs⟩ := hx
  obtain rfl : z = b := by injection hbb with h; injection h
  clear hbb
  have x0 : w.cell? ⟨z, 0, none⟩ = some (.bool (decide (i < 0))) := hk.cell 0 (by simp)
  have x1 : w.cell? ⟨z, 1, none⟩ = some abs := hk.cell 1 (by simp)
  have g0 := hk.free 0
  have g1 := hk.free 1
  obtain ⟨ib, hib, hibs⟩ := infoBg'
  have hpe := run_neq_ptr_same (P := Tryz.prog) (w := w) (a := ⟨z, 0, none⟩) Tryz.underlying50 hib hibs
  have FIN : Hid (PutPost z (-i) w (.returned (.pointer (some ⟨z, 0, none⟩))) (w.setCell ⟨z, 0, none⟩ (.bool (decide (-i < 0))))) := Lib.hid (by
    have k1 := hk.set 0 (.bool (decide (-i < 0)))
    have habs : ∀ m, abs ≠ wv m := by
      obtain ⟨a, c, rfl, _⟩ := hs
      intro m; simp [wv]
    refine ⟨rfl, ⟨z, abs, rfl, by simpa [World.setCell] using hb, k1, xs, by rwa [Int.natAbs_neg], ?_⟩, (Up.refl _ w).set 0 _⟩
    have := hs.far hk (not_wv (by
      intro u hu m
      simp only [List.mem_cons, List.not_mem_nil, or_false] at hu
      rcases hu with rfl | rfl
      · simp [wv]
      · exact habs m) xs) 0 (.bool (decide (-i < 0)))
    simpa [World.setCell] using this)
  have hpos := hr.pos_iff (by omega)
  obtain ⟨a, c, rfl, hc, hrd⟩ := id hs
  simp only [List.length_map] at x1
  by_cases h0 : xs = []
  · have hi : i = 0 := by have := hpos.1 h0; omega
    subst h0
    subst hi
    clear hr hs hk hrd hc hpos hb
    go_enter Tryz.func34, Tryz.ntmps34
    go_wp2
    go_ret
    exact FIN.out
  · have hp : 0 < xs.length := List.length_pos_iff.2 h0
    have hi : i ≠ 0 := fun h => h0 (hpos.2 (by omega))
    by_cases h2 : i < 0
    · rw [decide_eq_true h2] at x0
      rw [decide_eq_false (show ¬ -i < 0 by omega)] at FIN
      clear hr hs hk hrd hc hpos hb h0 hi h2
      go_enter Tryz.func34, Tryz.ntmps34
      go_wp2
      go_ret
      exact FIN.out
    · rw [decide_eq_false h2] at x0
      rw [decide_eq_true (show -i < 0 by omega)] at FIN
      clear hr hs hk hrd hc hpos hb h0 hi h2
      go_enter Tryz.func34, Tryz.ntmps34
      go_wp2
      go_ret
      exact FIN.out

/-- the world in which 'whole' has laid its three variables -/
def wholeW (w : World) (neg : Bool) (mag : Value) : World :=
  ((w.alloc (.cells #[.int .i64 2, .bool neg, mag, .int .u64 0, .string ByteArray.empty, .slice none 0 0] 28)).alloc (.cells #[.int .i64 0, .pointer none] 54)).alloc (.cells #[.bool false, .slice none 0 0] 71)

theorem wholeW_below (w : World) (neg : Bool) (mag : Value) : Below w.heap.size w (wholeW w neg mag) := (((Below.refl _ _).alloc (Nat.le_refl _) _).alloc (by simp) _).alloc (by simp; omega) _
theorem wholeW_big (w : World) (neg : Bool) (mag : Value) : Blk (wholeW w neg mag) (w.heap.size + 1 + 1) 71 [.bool false, .slice none 0 0] := by
  have := Blk.new ((w.alloc (.cells #[.int .i64 2, .bool neg, mag, .int .u64 0, .string ByteArray.empty, .slice none 0 0] 28)).alloc (.cells #[.int .i64 0, .pointer none] 54)) 71 [.bool false, .slice none 0 0]
  simpa [wholeW] using this
theorem wholeW_int (w : World) (neg : Bool) (mag : Value) : Blk (wholeW w neg mag) (w.heap.size + 1) 54 [.int .i64 0, .pointer none] := by
  have := (Blk.new (w.alloc (.cells #[.int .i64 2, .bool neg, mag, .int .u64 0, .string ByteArray.empty, .slice none 0 0] 28)) 54 [.int .i64 0, .pointer none]).alloc (.cells #[.bool false, .slice none 0 0] 71)
  simpa [wholeW] using this
theorem wholeW_val (w : World) (neg : Bool) (mag : Value) : Blk (wholeW w neg mag) w.heap.size 28 [.int .i64 2, .bool neg, mag, .int .u64 0, .string ByteArray.empty, .slice none 0 0] :=
  ((Blk.new w 28 [.int .i64 2, .bool neg, mag, .int .u64 0, .string ByteArray.empty, .slice none 0 0]).alloc _).alloc _
theorem wholeW_size (w : World) (neg : Bool) (mag : Value) : (wholeW w neg mag).heap.size = w.heap.size + 3 := by simp [wholeW]

set_option maxHeartbeats 1600000 in
theorem whole_any (v : Value) (i : Int) (w : World) (hv : Va w w.heap.size v i) (hl : i.natAbs < lim) : Calls Tryz.prog 22 #[v] w (InPost i w) := by
  obtain ⟨mag, rfl, hm⟩ := hv
  obtain ⟨neg, hneg⟩ : ∃ neg, neg = decide (i < 0) := ⟨_, rfl⟩
  rw [← hneg]
  have C1 := Lib.hid (SetBytes_any (w.heap.size + 1 + 1) i.natAbs mag (wholeW w neg mag) (wholeW_big w neg mag) ((hm.below (wholeW_below w neg mag)).more (wholeW_below w neg mag).size) hl)
  have up : Hid (∀ w1, Up (some (w.heap.size + 1 + 1)) (wholeW w neg mag) w1 → Blk w1 w.heap.size 28 [.int .i64 2, .bool neg, mag, .int .u64 0, .string ByteArray.empty, .slice none 0 0] ∧ Blk w1 (w.heap.size + 1) 54 [.int .i64 0, .pointer none] ∧ Below w.heap.size w w1) := Lib.hid (fun w1 hu =>
    ⟨(wholeW_val w neg mag).up hu (by simp; omega), (wholeW_int w neg mag).up hu (by simp), (wholeW_below w neg mag).trans (hu.below (wholeW_below w neg mag).size (fun k hk => by injection hk with hk; omega))⟩)
  have fin : Hid (∀ (w1 w2 : World) (s : Int) (q : Option Addr), Below w.heap.size w w1 → Blk w1 (w.heap.size + 1) 54 [.int .i64 0, .pointer none] → Below w1.heap.size w1 w2 → In w2 w2.heap.size (.agg #[.int .i64 s, .pointer q]) i →
      InPost i w (.returned (.agg #[.int .i64 s, .pointer q])) ((w2.setCell ⟨w.heap.size + 1, 0, none⟩ (.int .i64 s)).setCell ⟨w.heap.size + 1, 1, none⟩ (.pointer q)) ∧ Blk w2 (w.heap.size + 1) 54 [.int .i64 0, .pointer none]) := Lib.hid (fun w1 w2 s q hb hk hb2 hi => by
    have hk2 := hk.below hb2 hk.lt
    have := hi.store (w := w) hk2 (by simp [wv]) (hb.trans (hb2.mono hb.size)) (by omega)
    exact ⟨⟨_, rfl, this.1, this.2⟩, hk2⟩)
  unfold wholeW at C1
  clear hm
  by_cases h2 : i < 0
  · rw [decide_eq_true h2] at hneg
    subst hneg
    have E2 := Lib.hid (show -((i.natAbs : Nat) : Int) = i by omega)
    clear h2
    go_enter Tryz.func22, Tryz.ntmps22
    go_wp2_with fail
    refine C1.out.mono ?_
    rintro e w1 ⟨rfl, hbg, hu⟩
    have HU := Lib.hid hu
    obtain ⟨hv1, hk1, hb1⟩ := up.out w1 hu
    have v1 : w1.cell? ⟨w.heap.size, 1, none⟩ = some (.bool true) := hv1.cell 1 (by simp)
    have C2 := Lib.hid (Neg_same _ _ w1 hbg)
    rw [E2.out] at C2
    clear hbg hu hv1 hk1 hb1
    go_wp2_with fail
    refine C2.out.mono ?_
    rintro e w2 ⟨rfl, hbg, hu⟩
    obtain ⟨_, hk1, hb1⟩ := up.out w2 (HU.out.trans hu)
    have C3 := Lib.hid (makeBigInt_any _ i w2 hbg hl)
    have HK := Lib.hid hk1
    have HB := Lib.hid hb1
    clear hbg hu hk1 hb1
    go_wp2_with fail
    refine C3.out.mono ?_
    rintro e w3 ⟨v, rfl, hi, hb3⟩
    obtain ⟨s, q, rfl⟩ := hi.form
    obtain ⟨f, hk⟩ := fin.out w2 w3 s q HB.out HK.out hb3 hi
    have F := Lib.hid f
    have c0 : w3.cell? ⟨w.heap.size + 1, 0, none⟩ = some (.int .i64 0) := hk.cell 0 (by simp)
    have c1 : w3.cell? ⟨w.heap.size + 1, 1, none⟩ = some (.pointer none) := hk.cell 1 (by simp)
    have f0 := hk.free 0
    have f1 := hk.free 1
    have hlt := hk.lt
    clear hk f hi hb3
    go_wp2
    refine bodyPost_ret (v := .agg #[.int .i64 s, .pointer q]) (by simp [results, Tryz.results22, go_sem, c0, c1, hlt]) rfl ?_
    exact F.out
  · rw [decide_eq_false h2] at hneg
    subst hneg
    have E2 := Lib.hid (show ((i.natAbs : Nat) : Int) = i by omega)
    clear h2
    go_enter Tryz.func22, Tryz.ntmps22
    go_wp2_with fail
    refine C1.out.mono ?_
    rintro e w1 ⟨rfl, hbg, hu⟩
    rw [E2.out] at hbg
    obtain ⟨hv1, hk1, hb1⟩ := up.out w1 hu
    have v1 : w1.cell? ⟨w.heap.size, 1, none⟩ = some (.bool false) := hv1.cell 1 (by simp)
    have C3 := Lib.hid (makeBigInt_any _ i w1 hbg hl)
    have HK := Lib.hid hk1
    have HB := Lib.hid hb1
    clear hbg hu hv1 hk1 hb1
    go_wp2_with fail
    refine C3.out.mono ?_
    rintro e w3 ⟨v, rfl, hi, hb3⟩
    obtain ⟨s, q, rfl⟩ := hi.form
    obtain ⟨f, hk⟩ := fin.out w1 w3 s q HB.out HK.out hb3 hi
    have F := Lib.hid f
    have c0 : w3.cell? ⟨w.heap.size + 1, 0, none⟩ = some (.int .i64 0) := hk.cell 0 (by simp)
    have c1 : w3.cell? ⟨w.heap.size + 1, 1, none⟩ = some (.pointer none) := hk.cell 1 (by simp)
    have f0 := hk.free 0
    have f1 := hk.free 1
    have hlt := hk.lt
    clear hk f hi hb3
    go_wp2
    refine bodyPost_ret (v := .agg #[.int .i64 s, .pointer q]) (by simp [results, Tryz.results22, go_sem, c0, c1, hlt]) rfl ?_
    exact F.out
end Go.Proofs.YtbfgjaammmpcdaaGreatDoor
