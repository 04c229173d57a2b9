/- MakeBigInt and impl.whole: a pointer in the result is new. Printed by genfresh.py out of XWhole and XWhole2. -/
import Derived.Test.YtpcnmgldmnncoaaGreatDoorMWhole
namespace Go.Proofs.YtpcnmgldmnncoaaGreatDoor
open Go.RowKit Dig
set_option linter.unusedVariables false
set_option linter.unusedSimpArgs false
set_option maxRecDepth 100000

/-- an integer of the package; a pointer in it is new -/
def InNew (i : Int) (w : World) (e : Ending) (w' : World) : Prop := InPost i w e w' ∧ ∀ s b, e = .returned (.agg #[.int .i64 s, .pointer (some ⟨b, 0, none⟩)]) → w.heap.size ≤ b
set_option maxHeartbeats 800000 in
theorem makeBigInt_fresh (p : Option Addr) (i : Int) (w : World) (h : Bg w w.heap.size p i) (hl : i.natAbs < lim) : Calls Tryz.prog 28 #[.pointer p] w (InNew i w) := by
  have hal : ∀ x, Below w.heap.size w (w.alloc x) := fun x => (Below.refl _ _).alloc (Nat.le_refl _) _
  have hB1 : Bg (w.alloc (.cells #[.int .i64 0, .pointer none] 44)) (w.alloc (.cells #[.int .i64 0, .pointer none] 44)).heap.size p i := (h.below (hal _)).more (hal _).size
  have C1 := Lib.hid (isSmall_any p i _ hB1 hl)
  by_cases hs : smallI i = true
  · have hr : -2147483648 ≤ i ∧ i ≤ 2147483647 := by simpa [smallI] using hs
    have C2 := Lib.hid (Int64_any p i _ hB1 (by omega))
    rw [hs] at C1
    clear h hB1 hal hs
    obtain ⟨hr1, hr2⟩ := hr
    go_enter Tryz.func28, Tryz.ntmps28
    go_wp2_with fail
    refine C1.out.mono ?_
    rintro e w' ⟨rfl, rfl⟩
    go_wp2_with fail
    refine C2.out.mono ?_
    rintro e w' ⟨rfl, rfl⟩
    go_wp2
    go_returns
    exact ⟨⟨_, rfl, ⟨i, none, rfl, .inl ⟨rfl, rfl, hr1, hr2⟩⟩, by go_grown⟩, by intro s b h; simp at h⟩
  · have hr : ¬ (-2147483648 ≤ i ∧ i ≤ 2147483647) := by simpa [smallI] using hs
    have hs' : smallI i = false := by simpa using hs
    have C2 := Lib.hid (Set_new p i _ hB1 hl)
    have core : Hid (∀ w2 : World, Below (w.heap.size + 1) (w.alloc (.cells #[.int .i64 0, .pointer none] 44)) w2 → Blk w2 w.heap.size 44 [.int .i64 0, .pointer none] ∧ Below w.heap.size w w2) := Lib.hid (fun w2 hb =>
      ⟨(Blk.new w 44 [.int .i64 0, .pointer none]).below hb (by omega), (hal _).trans (hb.mono (by omega))⟩)
    have fin : Hid (∀ (w2 : World) (q : Option Addr), Bg w2 w2.heap.size q i → Blk w2 w.heap.size 44 [.int .i64 0, .pointer none] → Below w.heap.size w w2 →
        InPost i w (.returned (.agg #[.int .i64 0, .pointer q])) ((((w2.setCell ⟨w.heap.size, 0, none⟩ (.int .i64 0)).setCell ⟨w.heap.size, 1, none⟩ (.pointer q))).alloc (.cells #[.int .i64 0, .pointer q] 44))) := Lib.hid (fun w2 q hq hk hb => by
      have hi : In w2 w2.heap.size (.agg #[.int .i64 0, .pointer q]) i := ⟨0, q, rfl, .inr ⟨rfl, hr, hq⟩⟩
      have := hi.store (w := w) hk (by simp [wv]) hb (Nat.le_refl _)
      exact ⟨_, rfl, (this.1.below ((Below.refl _ _).alloc (Nat.le_refl _) _)).more (by simp), this.2.alloc this.2.size _⟩)
    have hsz : (w.alloc (.cells #[.int .i64 0, .pointer none] 44)).heap.size = w.heap.size + 1 := by simp
    rw [hsz] at C2
    rw [hs'] at C1
    clear h hB1 hal hs hs' hr hsz
    go_enter Tryz.func28, Tryz.ntmps28
    go_wp2_with fail
    refine C1.out.mono ?_
    rintro e w' ⟨rfl, rfl⟩
    go_wp2_with fail
    refine C2.out.mono ?_
    rintro e w2 ⟨rfl, hq, hb⟩
    obtain ⟨hk, hbb⟩ := core.out w2 hb
    have c0 : w2.cell? ⟨w.heap.size, 0, none⟩ = some (.int .i64 0) := hk.cell 0 (by simp)
    have c1 : w2.cell? ⟨w.heap.size, 1, none⟩ = some (.pointer none) := hk.cell 1 (by simp)
    have f0 := hk.free 0
    have f1 := hk.free 1
    have hlt := hk.lt
    have F := Lib.hid (fin.out w2 _ hq hk hbb)
    clear hq hk hbb hb
    go_wp2
    refine bodyPost_ret (v := .agg #[.int .i64 0, .pointer _]) (by simp [results, Tryz.results28, go_sem, c0, c1, hlt]; rfl) rfl ?_
    exact ⟨F.out, by intro s b h; simp at h; omega⟩
set_option maxHeartbeats 1600000 in
theorem whole_fresh (v : Value) (i : Int) (w : World) (hv : Va w w.heap.size v i) (hl : i.natAbs < lim) : Calls Tryz.prog 16 #[v] w (InNew i w) := by
  obtain ⟨mag, rfl, hm⟩ := hv
  obtain ⟨neg, hneg⟩ : ∃ neg, neg = decide (i < 0) := ⟨_, rfl⟩
  rw [← hneg]
  have C1 := Lib.hid (SetBytes_any (w.heap.size + 1 + 1) i.natAbs mag (wholeW w neg mag) (wholeW_big w neg mag) ((hm.below (wholeW_below w neg mag)).more (wholeW_below w neg mag).size) hl)
  have up : Hid (∀ w1, Up (some (w.heap.size + 1 + 1)) (wholeW w neg mag) w1 → Blk w1 w.heap.size 28 [.int .i64 2, .bool neg, mag, .int .u64 0, .string ByteArray.empty, .slice none 0 0] ∧ Blk w1 (w.heap.size + 1) 44 [.int .i64 0, .pointer none] ∧ Below w.heap.size w w1) := Lib.hid (fun w1 hu =>
    ⟨(wholeW_val w neg mag).up hu (by simp; omega), (wholeW_int w neg mag).up hu (by simp), (wholeW_below w neg mag).trans (hu.below (wholeW_below w neg mag).size (fun k hk => by injection hk with hk; omega))⟩)
  have fin : Hid (∀ (w1 w2 : World) (s : Int) (q : Option Addr), Below w.heap.size w w1 → Blk w1 (w.heap.size + 1) 44 [.int .i64 0, .pointer none] → Below w1.heap.size w1 w2 → In w2 w2.heap.size (.agg #[.int .i64 s, .pointer q]) i →
      InPost i w (.returned (.agg #[.int .i64 s, .pointer q])) ((w2.setCell ⟨w.heap.size + 1, 0, none⟩ (.int .i64 s)).setCell ⟨w.heap.size + 1, 1, none⟩ (.pointer q)) ∧ Blk w2 (w.heap.size + 1) 44 [.int .i64 0, .pointer none]) := Lib.hid (fun w1 w2 s q hb hk hb2 hi => by
    have hk2 := hk.below hb2 hk.lt
    have := hi.store (w := w) hk2 (by simp [wv]) (hb.trans (hb2.mono hb.size)) (by omega)
    exact ⟨⟨_, rfl, this.1, this.2⟩, hk2⟩)
  unfold wholeW at C1
  clear hm
  by_cases h2 : i < 0
  · rw [decide_eq_true h2] at hneg
    subst hneg
    have E2 := Lib.hid (show -((i.natAbs : Nat) : Int) = i by omega)
    clear h2
    go_enter Tryz.func16, Tryz.ntmps16
    go_wp2_with fail
    refine C1.out.mono ?_
    rintro e w1 ⟨rfl, hbg, hu⟩
    have HU := Lib.hid hu
    obtain ⟨hv1, hk1, hb1⟩ := up.out w1 hu
    have v1 : w1.cell? ⟨w.heap.size, 1, none⟩ = some (.bool true) := hv1.cell 1 (by simp)
    have C2 := Lib.hid (Neg_same _ _ w1 hbg)
    rw [E2.out] at C2
    clear hbg hu hv1 hk1 hb1
    go_wp2_with fail
    refine C2.out.mono ?_
    rintro e w2 ⟨rfl, hbg, hu⟩
    obtain ⟨_, hk1, hb1⟩ := up.out w2 (HU.out.trans hu)
    have C3 := Lib.hid (makeBigInt_fresh _ i w2 hbg hl)
    have HK := Lib.hid hk1
    have HB := Lib.hid hb1
    clear hbg hu hk1 hb1
    go_wp2_with fail
    refine C3.out.mono ?_
    rintro e w3 ⟨⟨v, rfl, hi, hb3⟩, hfr⟩
    have HFR := Lib.hid hfr
    clear hfr
    obtain ⟨s, q, rfl⟩ := hi.form
    obtain ⟨f, hk⟩ := fin.out w2 w3 s q HB.out HK.out hb3 hi
    have F := Lib.hid f
    have c0 : w3.cell? ⟨w.heap.size + 1, 0, none⟩ = some (.int .i64 0) := hk.cell 0 (by simp)
    have c1 : w3.cell? ⟨w.heap.size + 1, 1, none⟩ = some (.pointer none) := hk.cell 1 (by simp)
    have f0 := hk.free 0
    have f1 := hk.free 1
    have hlt := hk.lt
    clear hk f hi hb3
    go_wp2
    refine bodyPost_ret (v := .agg #[.int .i64 s, .pointer q]) (by simp [results, Tryz.results16, go_sem, c0, c1, hlt]) rfl ?_
    exact ⟨F.out, fun s' b' h => Nat.le_trans HB.out.size (HFR.out s' b' h)⟩
  · rw [decide_eq_false h2] at hneg
    subst hneg
    have E2 := Lib.hid (show ((i.natAbs : Nat) : Int) = i by omega)
    clear h2
    go_enter Tryz.func16, Tryz.ntmps16
    go_wp2_with fail
    refine C1.out.mono ?_
    rintro e w1 ⟨rfl, hbg, hu⟩
    rw [E2.out] at hbg
    obtain ⟨hv1, hk1, hb1⟩ := up.out w1 hu
    have v1 : w1.cell? ⟨w.heap.size, 1, none⟩ = some (.bool false) := hv1.cell 1 (by simp)
    have C3 := Lib.hid (makeBigInt_fresh _ i w1 hbg hl)
    have HK := Lib.hid hk1
    have HB := Lib.hid hb1
    clear hbg hu hv1 hk1 hb1
    go_wp2_with fail
    refine C3.out.mono ?_
    rintro e w3 ⟨⟨v, rfl, hi, hb3⟩, hfr⟩
    have HFR := Lib.hid hfr
    clear hfr
    obtain ⟨s, q, rfl⟩ := hi.form
    obtain ⟨f, hk⟩ := fin.out w1 w3 s q HB.out HK.out hb3 hi
    have F := Lib.hid f
    have c0 : w3.cell? ⟨w.heap.size + 1, 0, none⟩ = some (.int .i64 0) := hk.cell 0 (by simp)
    have c1 : w3.cell? ⟨w.heap.size + 1, 1, none⟩ = some (.pointer none) := hk.cell 1 (by simp)
    have f0 := hk.free 0
    have f1 := hk.free 1
    have hlt := hk.lt
    clear hk f hi hb3
    go_wp2
    refine bodyPost_ret (v := .agg #[.int .i64 s, .pointer q]) (by simp [results, Tryz.results16, go_sem, c0, c1, hlt]) rfl ?_
    exact ⟨F.out, fun s' b' h => Nat.le_trans HB.out.size (HFR.out s' b' h)⟩
end Go.Proofs.YtpcnmgldmnncoaaGreatDoor
