/- impl.StringRepeat; the law FnStringRepeat. -/
import Derived.Test.YthnmkbdeoahiaaaStrRep
import Derived.Test.YthnmkbdeoahiaaaLawsWhole
import Derived.Test.YthnmkbdeoahiaaaRowSl
namespace Go.Proofs.Ythnmkbdeoahiaaa
open Go.RowKit Dig
set_option linter.unusedVariables false
set_option linter.unusedSimpArgs false
set_option maxRecDepth 100000

theorem zzStrRep_any (s : ByteArray) (v : Value) (i : Int) (w : World) (hv : In w w.heap.size v i) (hi : i.natAbs < 16777216) (hs : s.size ≤ 300) (hask : s.size = 0 ∨ i < 1 ∨ (i ≤ 1048576 ∧ i.toNat * s.size ≤ 65536)) :
    Calls Try.prog 30 #[.string s, v] w (SRPost s i w) := by
  obtain ⟨sm, p, rfl⟩ := hv.form
  have hb0 : Below w.heap.size w (w.alloc (.cells #[.int .i64 sm, .pointer p] 70)) := (Below.refl _ _).alloc (Nat.le_refl _) _
  have C := Lib.hid (stringRepeat_any s _ i _ ((hv.below hb0).more hb0.size) hi hs hask)
  have HB0 := Lib.hid hb0
  clear hv hi hs hask hb0
  go_enter Try.func30, Try.ntmps30
  go_wp2_with fail
  refine C.out.mono ?_
  rintro e w1 ⟨rfl, hb1⟩
  have HB1 := Lib.hid (HB0.out.trans (hb1.mono HB0.out.size)); clear hb1
  go_wp2_with fail
  go_ret2
  exact ⟨rfl, HB1.out⟩
def ISRPost (s : ByteArray) (i : Int) (w : World) (e : Ending) (w' : World) : Prop := e = .returned (.tuple #[.string (repB s i.toNat), .bool true]) ∧ Below w.heap.size w w'
set_option maxHeartbeats 800000 in
theorem implStrRep_any (s : ByteArray) (v : Value) (i : Int) (w : World) (hv : Va w w.heap.size v i) (hi : i.natAbs < 16777216) (hs : s.size ≤ 300) (hask : s.size = 0 ∨ i < 1 ∨ (i ≤ 1048576 ∧ i.toNat * s.size ≤ 65536)) :
    Calls Try.prog 12 #[.string s, v] w (ISRPost s i w) := by
  have hl : i.natAbs < lim := lt_lim (j := 3) (by
    have e : (256 : Nat) ^ 3 = 16777216 := by decide
    omega) (by omega)
  obtain ⟨vn, va, vk, vc, rfl⟩ := hv.parts
  have hb0 : Below w.heap.size w (w.alloc (.cells #[.int .i64 2, .bool vn, .slice va vk vc, .int .u64 0, .string ByteArray.empty, .slice none 0 0] 28)) := (Below.refl _ _).alloc (Nat.le_refl _) _
  have C := Lib.hid (whole_any _ i _ ((hv.below hb0).more hb0.size) hl)
  have Z := Lib.hid (fun v W h => zzStrRep_any s v i W h hi hs hask)
  have HB0 := Lib.hid hb0
  clear hv hi hs hask hb0 hl
  go_enter Try.func12, Try.ntmps12
  go_wp2_with fail
  refine C.out.mono ?_
  rintro e w1 ⟨u, rfl, hu, hb1⟩
  have HU := Lib.hid hu
  have HB1 := Lib.hid (HB0.out.trans (hb1.mono HB0.out.size)); clear hb1 hu
  go_wp2_with fail
  refine (Z.out _ _ HU.out).mono ?_
  rintro e w2 ⟨rfl, hb2⟩
  have HB2 := Lib.hid (HB1.out.trans (hb2.mono HB1.out.size)); clear hb2
  go_wp2_with fail
  go_ret2
  exact ⟨rfl, HB2.out⟩

set_option maxHeartbeats 2400000 in
theorem lawStrRep (s : ByteArray) (an : Bool) (a : Value) (ms : List Nat) (w : World) (hms : ∀ x ∈ ms, x < 256) (ha : Sl w w.heap.size a (ms.map bv)) (ls : s.size ≤ maxLen) (lm : ms.length ≤ maxLen) :
    Calls Try.prog 4 #[.string s, .bool an, a] w fun e w' => e = .returned (.bool true) ∧ Below w.heap.size w w' := by
  simp only [maxLen] at lm ls
  obtain ⟨aa, ca, rfl, hca, _⟩ := id ha
  simp only [List.length_map] at ha hca ⊢
  by_cases l0 : s.size ≤ 2147483647
  · by_cases l1 : ms.length ≤ 2147483647
    · have WA := Lib.hid (lawsWhole_any an ms _ 3 w hms ha l1 (by omega))
      clear ha hms
      have hT : (s.extract 0 (min (s.size : Int) 300).toNat).size ≤ 300 := by
        rw [ByteArray.size_extract]; omega
      go_enter Try.func4, Try.ntmps4
      go_wp2_with fail
      refine WA.out.mono ?_
      rintro e w1 ⟨i, n1, n2, a1, a2, k1, c1, k2, c2, hi, rfl, hx, hp, hb1⟩
      generalize s.extract 0 (min (s.size : Int) 300).toNat = T at *
      have hi2 : i.natAbs < 16777216 := by
        have e : (256 : Nat) ^ 3 = 16777216 := by decide
        omega
      obtain ⟨Wa, hWa⟩ : ∃ Wa, Wa = (w1.alloc (.cells #[.bool n1, .slice a1 k1 c1] 24)).alloc (.cells #[.int .i64 2, .bool n2, .slice a2 k2 c2, .int .u64 0, .string ByteArray.empty, .slice none 0 0] 28) := ⟨_, rfl⟩
      have BA : Below w1.heap.size w1 Wa := by rw [hWa]; exact ((Below.refl _ _).alloc (Nat.le_refl _) _).alloc (by simp) _
      have hPA : Blk Wa (w1.heap.size + 1) 28 [.int .i64 2, .bool n2, .slice a2 k2 c2, .int .u64 0, .string ByteArray.empty, .slice none 0 0] := by
        rw [hWa]
        have := Blk.new (w1.alloc (.cells #[.bool n1, .slice a1 k1 c1] 24)) 28 [.int .i64 2, .bool n2, .slice a2 k2 c2, .int .u64 0, .string ByteArray.empty, .slice none 0 0]
        simpa using this
      have hbA : Below w.heap.size w Wa := hb1.trans (BA.mono hb1.size)
      have hpA := (hp.below BA).more BA.size
      have R := Lib.hid (repeated_any T i _ Wa hpA hi2 hT)
      have KEEP : Hid (∀ W, Below Wa.heap.size Wa W → (_ ∧ _) ∧ Below w.heap.size w W) := Lib.hid (fun W h => ⟨val_cells (hPA.below h hPA.lt), hbA.trans (h.mono hbA.size)⟩)
      have S : Hid (∀ W, Below Wa.heap.size Wa W → (T.size = 0 ∨ i < 1 ∨ (i ≤ 1048576 ∧ i.toNat * T.size ≤ 65536)) → Calls Try.prog 12 #[.string T, .agg #[.int .i64 2, .bool n2, .slice a2 k2 c2, .int .u64 0, .string ByteArray.empty, .slice none 0 0]] W fun e w' => e = .returned (.tuple #[.string (repB T i.toNat), .bool true]) ∧ Below w.heap.size w w') := Lib.hid (fun W h hask => by
        have g := hbA.trans (h.mono hbA.size)
        refine (implStrRep_any T _ i W ((hpA.below h).more h.size) hi2 hT hask).mono ?_
        rintro e w' ⟨rfl, hb⟩
        exact ⟨rfl, g.trans (hb.mono g.size)⟩)
      clear hx hp hb1 hpA hPA hbA BA hi hi2 WA
      subst hWa
      go_wp2_with fail
      refine R.out.mono ?_
      rintro e w2 ⟨out, ok, rfl, hb2, hok⟩
      obtain ⟨⟨p0, p1, p2, p3, p4, p5⟩, hw2⟩ := KEEP.out _ hb2
      have HW := Lib.hid hw2
      clear hw2
      cases ok with
      | false =>
        clear hok hb2
        go_wp2_with fail
        go_ret
        exact ⟨rfl, HW.out⟩
      | true =>
        obtain ⟨rfl, hask⟩ := hok rfl
        have S2 := Lib.hid (S.out _ hb2 hask)
        clear S hask hok hb2
        go_wp2_with fail
        refine S2.out.mono ?_
        rintro e w3 ⟨rfl, hb3⟩
        have HW3 := Lib.hid hb3
        clear hb3
        go_wp2_with fail
        go_ret
        exact ⟨rfl, HW3.out⟩
    · clear ha hms
      go_enter Try.func4, Try.ntmps4
      go_wp2_with fail
      go_ret
      exact ⟨rfl, Below.refl _ _⟩
  · clear ha hms
    go_enter Try.func4, Try.ntmps4
    go_wp2_with fail
    go_ret
    exact ⟨rfl, Below.refl _ _⟩
end Go.Proofs.Ythnmkbdeoahiaaa
