/- impl.tellScalar at an integer; ZzParseInt, impl.IntRead. -/
import Derived.Test.YtbfgjaammmpcdaaGreatDoorParseInt
import Derived.Test.YtbfgjaammmpcdaaGreatDoorMNew
import Derived.WalkSpells
namespace Go.Proofs.YtbfgjaammmpcdaaGreatDoor
open Go.RowKit Dig
set_option linter.unusedVariables false
set_option linter.unusedSimpArgs false
set_option maxRecDepth 100000

theorem ti_non (v : Value) (w : World) : (Instr.typeAssert (.iface 54 (v)) 46 60 true).run Tryz.prog w = .ok (.tuple #[.int .u8 0, .bool false]) w := by kernel_rfl
theorem ti_boo (v : Value) (w : World) : (Instr.typeAssert (.iface 54 (v)) 46 61 true).run Tryz.prog w = .ok (.tuple #[.bool false, .bool false]) w := by kernel_rfl
theorem ti_int (v : Value) (w : World) : (Instr.typeAssert (.iface 54 (v)) 46 54 true).run Tryz.prog w = .ok (.tuple #[v, .bool true]) w := by kernel_rfl
theorem Va.form6 {w : World} {B : Nat} {v : Value} {i : Int} (h : Va w B v i) : ∃ a k c, v = .agg #[.int .i64 2, .bool (decide (i < 0)), .slice a k c, .int .u64 0, .string ByteArray.empty, .slice none 0 0] ∧ By w B (.slice a k c) i.natAbs := by
  obtain ⟨mag, rfl, hby⟩ := h
  obtain ⟨ms, h1, h2⟩ := hby
  obtain ⟨a, c, rfl, h3⟩ := id h2
  exact ⟨a, _, c, rfl, ms, h1, h2⟩
set_option maxHeartbeats 1600000 in
theorem tellInt_any (i : Int) (s : Int) (q : Option Addr) (w : World) (hv : In w w.heap.size (.agg #[.int .i64 s, .pointer q]) i) (hl : i.natAbs < lim) : Calls Tryz.prog 20 #[.iface 54 (.agg #[.int .i64 s, .pointer q])] w (VaPost i w) := by
  have i0 := ti_non
  have i1 := ti_boo
  have i2 := ti_int
  have hb0 : Below w.heap.size w ((w.alloc (.cells zeroVal.toArray 28)).alloc (.cells #[.int .i64 s, .pointer q] 54)) := ((Below.refl _ _).alloc (Nat.le_refl _) _).alloc (by simp) _
  have C := Lib.hid (number_any _ i _ ((hv.below hb0).more hb0.size) hl)
  have HB0 := Lib.hid hb0
  have hk0 : Blk ((w.alloc (.cells zeroVal.toArray 28)).alloc (.cells #[.int .i64 s, .pointer q] 54)) w.heap.size 28 zeroVal := (Blk.new w _ zeroVal).alloc _
  have HK0 := Lib.hid hk0
  clear hv hl hb0 hk0
  unfold zeroVal at C HB0 HK0
  go_enter Tryz.func20, Tryz.ntmps20
  go_wp2_with fail
  refine C.out.mono ?_
  rintro e w1 ⟨v, rfl, hva, hb1⟩
  have hk1 := HK0.out.below hb1 HK0.out.lt
  have c0 := hk1.cell 0 (by simp)
  have c1 := hk1.cell 1 (by simp)
  have c2 := hk1.cell 2 (by simp)
  have c3 := hk1.cell 3 (by simp)
  have c4 := hk1.cell 4 (by simp)
  have c5 := hk1.cell 5 (by simp)
  have f0 := hk1.free 0
  have f1 := hk1.free 1
  have f2 := hk1.free 2
  have f3 := hk1.free 3
  have f4 := hk1.free 4
  have f5 := hk1.free 5
  have lk := hk1.lt
  obtain ⟨a, k, c, rfl, hby⟩ := hva.form6
  have FIN := Lib.hid (Va.store (w := w) hby rfl hk1 (HB0.out.trans (hb1.mono HB0.out.size)) (Nat.le_refl _))
  clear hva hb1 hk1 hby
  generalize decide (i < 0) = n at *
  go_wp2_with fail
  refine bodyPost_ret (v := .agg #[.int .i64 2, .bool n, .slice a k c, .int .u64 0, .string ByteArray.empty, .slice none 0 0]) (by simp [results, Tryz.results20, go_sem, c0, c1, c2, c3, c4, c5] <;> rfl) rfl ?_
  exact FIN.out
theorem zzParse_any (T : ByteArray) (a : Int) (neg : Bool) (b : Nat) (ds : List Nat) (n : Nat) (w : World) (h : Calls Tryz.prog 31 #[.string T, .int .i64 a] w (PiPost neg b ds n w)) :
    Calls Tryz.prog 19 #[.string T, .int .i64 a] w (PiPost neg b ds n w) := by
  have C := Lib.hid h
  clear h
  go_enter Tryz.func19, Tryz.ntmps19
  go_wp2_with fail
  refine C.out.mono ?_
  rintro e w1 ⟨hb, ⟨hl, s, q, rfl, hin⟩ | ⟨hl, rfl⟩⟩
  · have F : Hid (PiPost neg b ds n w (.returned (.iface 54 (.agg #[.int .i64 s, .pointer q]))) w1) := Lib.hid ⟨hb, .inl ⟨hl, _, _, rfl, hin⟩⟩
    clear hb hin C
    go_wp2_with fail
    go_ret
    exact F.out
  · have F : Hid (PiPost neg b ds n w (.returned .nilIface) w1) := Lib.hid ⟨hb, .inr ⟨hl, rfl⟩⟩
    clear hb C
    go_wp2_with fail
    go_ret
    exact F.out
/-- what IntRead hands back -/
def IrPost (neg : Bool) (b : Nat) (ds : List Nat) (n : Nat) (w : World) (e : Ending) (w' : World) : Prop :=
  Below w.heap.size w w' ∧ ((ds.length = n ∧ ∃ ng a k c, e = .returned (.tuple #[.agg #[.int .i64 2, .bool ng, .slice a k c, .int .u64 0, .string ByteArray.empty, .slice none 0 0], .bool true]) ∧ Va w' w'.heap.size (.agg #[.int .i64 2, .bool ng, .slice a k c, .int .u64 0, .string ByteArray.empty, .slice none 0 0]) (signI neg (hval b ds))) ∨
    (ds.length < n ∧ e = .returned (.tuple #[.agg #[.int .i64 0, .bool false, .slice none 0 0, .int .u64 0, .string ByteArray.empty, .slice none 0 0], .bool false])))
set_option maxHeartbeats 1600000 in
theorem intRead_any (T R body : ByteArray) (a b x y : Nat) (neg : Bool) (ds : List Nat) (eP nP : Addr) (w : World) (hs : SgnTxt T neg R x) (hp : PfxTxt R a b body y) (ha : a ≤ 36) (ht : NumTxt b body ds) (hg : NumG eP nP w.heap.size w) :
    Calls Tryz.prog 8 #[.string T, .int .i64 (a : Int)] w (IrPost neg b ds body.size w) := by
  obtain ⟨W0, hW0⟩ : ∃ W0, W0 = w.alloc (.cells zeroVal.toArray 28) := ⟨_, rfl⟩
  have hk0 : Blk W0 w.heap.size 28 zeroVal := by rw [hW0]; exact Blk.new w _ zeroVal
  have hb0 : Below w.heap.size w W0 := by rw [hW0]; exact (Below.refl _ _).alloc (Nat.le_refl _) _
  have C := Lib.hid (zzParse_any T a neg b ds body.size W0 (parseInt_any T R body a b x y neg ds eP nP W0 hs hp ha ht ((hg.below hb0).more hb0.size)))
  have HB0 := Lib.hid hb0
  have HK0 := Lib.hid hk0
  have hlm : (signI neg (hval b ds)).natAbs < lim := by
    have := ht.lim
    unfold signI
    cases neg
    · simpa using this
    · simpa using this
  have HLM := Lib.hid hlm
  clear hs hp ha ht hg hk0 hb0 hlm
  rw [hW0] at C HB0 HK0
  clear hW0
  unfold zeroVal at C HB0 HK0
  go_enter Tryz.func8, Tryz.ntmps8
  go_wp2_with fail
  refine C.out.mono ?_
  rintro e w1 ⟨hb1, hc⟩
  have hk1 := HK0.out.below hb1 HK0.out.lt
  have HB1 := Lib.hid (HB0.out.trans (hb1.mono HB0.out.size))
  have HK1 := Lib.hid hk1
  clear hb1 C
  rcases hc with ⟨hl, s, q, rfl, hin⟩ | ⟨hl, rfl⟩
  · have CT := Lib.hid (tellInt_any _ s q w1 hin HLM.out)
    clear hin hk1
    go_wp2_with fail
    refine CT.out.mono ?_
    rintro e w2 ⟨v, rfl, hva, hb2⟩
    have hk2 := HK1.out.below hb2 HK1.out.lt
    have c0 := hk2.cell 0 (by simp)
    have c1 := hk2.cell 1 (by simp)
    have c2 := hk2.cell 2 (by simp)
    have c3 := hk2.cell 3 (by simp)
    have c4 := hk2.cell 4 (by simp)
    have c5 := hk2.cell 5 (by simp)
    have f0 := hk2.free 0
    have f1 := hk2.free 1
    have f2 := hk2.free 2
    have f3 := hk2.free 3
    have f4 := hk2.free 4
    have f5 := hk2.free 5
    have lk := hk2.lt
    obtain ⟨a2, k, c, rfl, hby⟩ := hva.form6
    have FIN := Lib.hid (Va.store (w := w) hby rfl hk2 (HB1.out.trans (hb2.mono HB1.out.size)) (Nat.le_refl _))
    clear hva hb2 hk2 hby CT
    generalize decide (signI neg (hval b ds) < 0) = n at *
    go_wp2_with fail
    refine bodyPost_ret (v := .tuple #[.agg #[.int .i64 2, .bool n, .slice a2 k c, .int .u64 0, .string ByteArray.empty, .slice none 0 0], .bool true]) (by simp [results, Tryz.results8, go_sem, c0, c1, c2, c3, c4, c5] <;> rfl) rfl ?_
    obtain ⟨v2, h1, h2, h3⟩ := FIN.out
    injection h1 with h1
    subst h1
    exact ⟨h3, .inl ⟨hl, n, a2, k, c, rfl, h2⟩⟩
  · have c0 := hk1.cell 0 (by simp)
    have c1 := hk1.cell 1 (by simp)
    have c2 := hk1.cell 2 (by simp)
    have c3 := hk1.cell 3 (by simp)
    have c4 := hk1.cell 4 (by simp)
    have c5 := hk1.cell 5 (by simp)
    have f0 := hk1.free 0
    have f1 := hk1.free 1
    have f2 := hk1.free 2
    have f3 := hk1.free 3
    have f4 := hk1.free 4
    have f5 := hk1.free 5
    have lk := hk1.lt
    have FB : Hid (Below w.heap.size w ((((((w1.setCell ⟨w.heap.size, 0, none⟩ (.int .i64 0)).setCell ⟨w.heap.size, 1, none⟩ (.bool false)).setCell ⟨w.heap.size, 2, none⟩ (.slice none 0 0)).setCell ⟨w.heap.size, 3, none⟩ (.int .u64 0)).setCell ⟨w.heap.size, 4, none⟩ (.string ByteArray.empty)).setCell ⟨w.heap.size, 5, none⟩ (.slice none 0 0))) := Lib.hid ((((((HB1.out.setCell (p := ⟨_, 0, none⟩) (Nat.le_refl _) _).setCell (p := ⟨_, 1, none⟩) (Nat.le_refl _) _).setCell (p := ⟨_, 2, none⟩) (Nat.le_refl _) _).setCell (p := ⟨_, 3, none⟩) (Nat.le_refl _) _).setCell (p := ⟨_, 4, none⟩) (Nat.le_refl _) _).setCell (p := ⟨_, 5, none⟩) (Nat.le_refl _) _)
    clear hk1
    go_wp2_with fail
    refine bodyPost_ret (v := .tuple #[.agg #[.int .i64 0, .bool false, .slice none 0 0, .int .u64 0, .string ByteArray.empty, .slice none 0 0], .bool false]) (by simp [results, Tryz.results8, go_sem, c0, c1, c2, c3, c4, c5] <;> rfl) rfl ?_
    exact ⟨FB.out, .inr ⟨hl, rfl⟩⟩
end Go.Proofs.YtbfgjaammmpcdaaGreatDoor
