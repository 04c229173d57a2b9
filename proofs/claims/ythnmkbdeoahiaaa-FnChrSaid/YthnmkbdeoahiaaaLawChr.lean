/- The law FnChr. -/
import Derived.Test.YthnmkbdeoahiaaaChr
import Derived.Test.YthnmkbdeoahiaaaI64
import Derived.Test.YthnmkbdeoahiaaaLawsWhole
import Derived.Test.YthnmkbdeoahiaaaRowSl
namespace Go.Proofs.Ythnmkbdeoahiaaa
open Go.RowKit Dig
set_option linter.unusedVariables false
set_option linter.unusedSimpArgs false
set_option maxRecDepth 100000

theorem euro : Utf8.encode 8364 = { data := #[226, 130, 172] } := by decide +kernel
/-- the Euro's sign is made -/
theorem chrEuro (v : Value) (w : World) (hv : Va w w.heap.size v 8364) : Calls Try.prog 10 #[v] w fun e w' => e = .returned (.tuple #[.string { data := #[226, 130, 172] }, .bool true, .bool true]) ∧ Below w.heap.size w w' := by
  refine (implChr_any 8364 v w hv (small_lim _ (by decide) (by decide))).mono ?_
  rintro e w' ⟨rfl, hb⟩
  refine ⟨?_, hb⟩
  rw [show cpB 8364 = true by decide, if_pos rfl, euro]
theorem st6_val {w w2 : World} {b : Nat} {n : Bool} {a : Option Addr} {k c : Nat} {L : List Value} (hk : Blk w2 b 28 L) (hl : L.length = 6) : Blk ((((((w2.setCell ⟨b, 0, none⟩ (.int .i64 2)).setCell ⟨b, 1, none⟩ (.bool n)).setCell ⟨b, 2, none⟩ (.slice a k c)).setCell ⟨b, 3, none⟩ (.int .u64 0)).setCell ⟨b, 4, none⟩ (.string ByteArray.empty)).setCell ⟨b, 5, none⟩ (.slice none 0 0)) b 28 [.int .i64 2, .bool n, .slice a k c, .int .u64 0, .string ByteArray.empty, .slice none 0 0] := by
  obtain ⟨v0, v1, v2, v3, v4, v5, rfl⟩ : ∃ v0 v1 v2 v3 v4 v5, L = [v0, v1, v2, v3, v4, v5] := by
    match L, hl with
    | [v0, v1, v2, v3, v4, v5], _ => exact ⟨v0, v1, v2, v3, v4, v5, rfl⟩
  exact (((((hk.set 0 (.int .i64 2)).set 1 (.bool n)).set 2 (.slice a k c)).set 3 (.int .u64 0)).set 4 (.string ByteArray.empty)).set 5 (.slice none 0 0)
theorem By.far6 {w : World} {B b : Nat} {v : Value} {m : Nat} {L : List Value} {e : TypeId} {n : Bool} {a : Option Addr} {k c : Nat} (h : By w B v m) (hk : Blk w b e L) (hd : ∀ u ∈ L, ∀ x, u ≠ bv x) :
    By ((((((w.setCell ⟨b, 0, none⟩ (.int .i64 2)).setCell ⟨b, 1, none⟩ (.bool n)).setCell ⟨b, 2, none⟩ (.slice a k c)).setCell ⟨b, 3, none⟩ (.int .u64 0)).setCell ⟨b, 4, none⟩ (.string ByteArray.empty)).setCell ⟨b, 5, none⟩ (.slice none 0 0)) B v m := by
  have st : ∀ (L : List Value) (i : Nat) (y : Value), (∀ u ∈ L, ∀ x, u ≠ bv x) → (∀ x, y ≠ bv x) → ∀ u ∈ L.set i y, ∀ x, u ≠ bv x := by
    intro L i y h1 h2 u hu x
    rcases List.mem_or_eq_of_mem_set hu with h | h
    · exact h1 u h x
    · rw [h]; exact h2 x
  have d0 := st _ 0 (.int .i64 2) hd (by simp [bv])
  have d1 := st _ 1 (.bool n) d0 (by simp [bv])
  have d2 := st _ 2 (.slice a k c) d1 (by simp [bv])
  have d3 := st _ 3 (.int .u64 0) d2 (by simp [bv])
  have d4 := st _ 4 (.string ByteArray.empty) d3 (by simp [bv])
  have s0 := h.far hk hd 0 (.int .i64 2)
  have k0 := hk.set 0 (.int .i64 2)
  have s1 := s0.far k0 d0 1 (.bool n)
  have k1 := k0.set 1 (.bool n)
  have s2 := s1.far k1 d1 2 (.slice a k c)
  have k2 := k1.set 2 (.slice a k c)
  have s3 := s2.far k2 d2 3 (.int .u64 0)
  have k3 := k2.set 3 (.int .u64 0)
  have s4 := s3.far k3 d3 4 (.string ByteArray.empty)
  have k4 := k3.set 4 (.string ByteArray.empty)
  exact s4.far k4 d4 5 (.slice none 0 0)
theorem Va.far6 {w : World} {b : Nat} {v : Value} {i : Int} {L : List Value} {e : TypeId} {n : Bool} {a : Option Addr} {k c : Nat} (h : Va w w.heap.size v i) (hk : Blk w b e L) (hd : ∀ u ∈ L, ∀ x, u ≠ bv x) :
    Va ((((((w.setCell ⟨b, 0, none⟩ (.int .i64 2)).setCell ⟨b, 1, none⟩ (.bool n)).setCell ⟨b, 2, none⟩ (.slice a k c)).setCell ⟨b, 3, none⟩ (.int .u64 0)).setCell ⟨b, 4, none⟩ (.string ByteArray.empty)).setCell ⟨b, 5, none⟩ (.slice none 0 0)) ((((((w.setCell ⟨b, 0, none⟩ (.int .i64 2)).setCell ⟨b, 1, none⟩ (.bool n)).setCell ⟨b, 2, none⟩ (.slice a k c)).setCell ⟨b, 3, none⟩ (.int .u64 0)).setCell ⟨b, 4, none⟩ (.string ByteArray.empty)).setCell ⟨b, 5, none⟩ (.slice none 0 0)).heap.size v i := by
  obtain ⟨mag, rfl, hy⟩ := h
  have := hy.far6 (n := n) (a := a) (k := k) (c := c) hk hd
  exact ⟨mag, rfl, by simpa [World.setCell] using this⟩
theorem below_s6' {w w' : World} (h : Below w.heap.size w w') {b : Nat} (hb : w.heap.size ≤ b) (v0 v1 v2 v3 v4 v5 : Value) : Below w.heap.size w ((((((w'.setCell ⟨b, 0, none⟩ v0).setCell ⟨b, 1, none⟩ v1).setCell ⟨b, 2, none⟩ v2).setCell ⟨b, 3, none⟩ v3).setCell ⟨b, 4, none⟩ v4).setCell ⟨b, 5, none⟩ v5) :=
  (((((h.setCell (p := ⟨b, 0, none⟩) hb v0).setCell (p := ⟨b, 1, none⟩) hb v1).setCell (p := ⟨b, 2, none⟩) hb v2).setCell (p := ⟨b, 3, none⟩) hb v3).setCell (p := ⟨b, 4, none⟩) hb v4).setCell (p := ⟨b, 5, none⟩) hb v5
set_option maxHeartbeats 3200000 in
theorem lawChr (an : Bool) (a : Value) (ms : List Nat) (w : World) (hms : ∀ x ∈ ms, x < 256) (ha : Sl w w.heap.size a (ms.map bv)) (lm : ms.length ≤ maxLen) :
    Calls Try.prog 3 #[.bool an, a] w fun e w' => e = .returned (.bool true) ∧ Below w.heap.size w w' := by
  simp only [maxLen] at lm
  obtain ⟨aa, ca, rfl, hca, _⟩ := id ha
  simp only [List.length_map] at ha hca ⊢
  by_cases l1 : ms.length ≤ 2147483647
  · have WA := Lib.hid (lawsWhole_any an ms _ 12 w hms ha l1 (by omega))
    clear ha hms
    go_enter Try.func3, Try.ntmps3
    go_wp2_with fail
    refine WA.out.mono ?_
    rintro e w1 ⟨i, n1, n2, a1, a2, k1, c1, k2, c2, hi, rfl, hx, hp, hb1⟩
    have hl : i.natAbs < lim := lim_of i 12 hi (by omega)
    obtain ⟨Wa, hWa⟩ : ∃ Wa, Wa = (w1.alloc (.cells #[.bool n1, .slice a1 k1 c1] 24)).alloc (.cells #[.int .i64 2, .bool n2, .slice a2 k2 c2, .int .u64 0, .string ByteArray.empty, .slice none 0 0] 28) := ⟨_, rfl⟩
    have BA : Below w1.heap.size w1 Wa := by rw [hWa]; exact ((Below.refl _ _).alloc (Nat.le_refl _) _).alloc (by simp) _
    have hPA : Blk Wa (w1.heap.size + 1) 28 [.int .i64 2, .bool n2, .slice a2 k2 c2, .int .u64 0, .string ByteArray.empty, .slice none 0 0] := by
      rw [hWa]
      have := Blk.new (w1.alloc (.cells #[.bool n1, .slice a1 k1 c1] 24)) 28 [.int .i64 2, .bool n2, .slice a2 k2 c2, .int .u64 0, .string ByteArray.empty, .slice none 0 0]
      simpa using this
    have hbA : Below w.heap.size w Wa := hb1.trans (BA.mono hb1.size)
    have hpA := (hp.below BA).more BA.size
    have I64 := Lib.hid (specInt64_any i _ Wa ((hx.below BA).more BA.size) hl)
    have HPA := Lib.hid hPA; have HBA := Lib.hid hbA; have HP := Lib.hid hpA; have HL := Lib.hid hl
    have SM : Hid (∀ W, Below w.heap.size w W → Calls Try.prog 9 #[.int .i64 8364] W fun e w' => ∃ v, e = .returned v ∧ Sp w' w'.heap.size v 8364 ∧ Below w.heap.size w w' ∧ Below W.heap.size W w') := Lib.hid (fun W h => by
      refine (small_any 8364 W (by decide) (by decide)).mono ?_
      rintro e w' ⟨v, rfl, hs, hb⟩
      exact ⟨v, rfl, hs, h.trans (hb.mono h.size), hb⟩)
    have TD : Hid (∀ v W, Below w.heap.size w W → Sp W W.heap.size v 8364 → Calls Try.prog 8 #[v] W fun e w' => ∃ n a k c, e = .returned (.agg #[.int .i64 2, .bool n, .slice a k c, .int .u64 0, .string ByteArray.empty, .slice none 0 0]) ∧ Va w' w'.heap.size (.agg #[.int .i64 2, .bool n, .slice a k c, .int .u64 0, .string ByteArray.empty, .slice none 0 0]) 8364 ∧ Below w.heap.size w w' ∧ Below W.heap.size W w') := Lib.hid (fun v W h hs => by
      refine (told_any v 8364 W hs (small_lim _ (by decide) (by decide))).mono ?_
      rintro e w' ⟨v, rfl, hv, hb⟩
      obtain ⟨n, a, k, c, rfl⟩ := hv.parts
      exact ⟨n, a, k, c, rfl, hv, h.trans (hb.mono h.size), hb⟩)
    have EU : Hid (∀ v W, Below w.heap.size w W → Va W W.heap.size v 8364 → Calls Try.prog 10 #[v] W fun e w' => e = .returned (.tuple #[.string { data := #[226, 130, 172] }, .bool true, .bool true]) ∧ Below w.heap.size w w') := Lib.hid (fun v W h hv => by
      refine (chrEuro v W hv).mono ?_
      rintro e w' ⟨rfl, hb⟩
      exact ⟨rfl, h.trans (hb.mono h.size)⟩)
    have CH : Hid (∀ v W, Below w.heap.size w W → Va W W.heap.size v i → Calls Try.prog 10 #[v] W fun e w' => e = .returned (.tuple #[.string (if cpB i then Utf8.encode i else ByteArray.empty), .bool (cpB i), .bool true]) ∧ Below w.heap.size w w') := Lib.hid (fun v W h hv => by
      refine (implChr_any i v W hv hl).mono ?_
      rintro e w' ⟨rfl, hb⟩
      exact ⟨rfl, h.trans (hb.mono h.size)⟩)
    have EE := euro
    have HBS : Hid (w.heap.size ≤ w1.heap.size + 1) := Lib.hid (by have := hb1.size; omega)
    clear hx hp hb1 hpA hPA hbA BA hi hl WA
    subst hWa
    go_wp2_with fail
    refine I64.out.mono ?_
    rintro e w2 ⟨rfl, hb2⟩
    have HB2 := Lib.hid (HBA.out.trans (hb2.mono HBA.out.size))
    have HP2 := Lib.hid ((HP.out.below hb2).more hb2.size)
    have HK2 := Lib.hid (HPA.out.below hb2 HPA.out.lt)
    obtain ⟨p0, p1, p2, p3, p4, p5⟩ := val_cells HK2.out
    clear hb2 I64 HP HPA HBA
    by_cases hf : fits64 i = true
    · have hr : -9223372036854775808 ≤ i ∧ i ≤ 9223372036854775807 := by unfold fits64 at hf; simpa using hf
      rw [hf]
      by_cases hs : 55296 ≤ i ∧ i < 57344
      · skip
        have CHE := Lib.hid (EU.out)
        clear CH hf
        obtain ⟨hs1, hs2⟩ := hs
        go_wp2_with fail
        refine (SM.out _ HB2.out).mono ?_
        rintro e w3 ⟨v3, rfl, hs3, hb3, hbb3⟩
        obtain ⟨n3, a3, k3, c3, rfl⟩ := hs3.form
        have T := Lib.hid (TD.out _ _ hb3 hs3)
        have HK3 := Lib.hid (HK2.out.below hbb3 HK2.out.lt)
        clear hs3 hb3 hbb3 HP2
        go_wp2_with fail
        refine T.out.mono ?_
        rintro e w4 ⟨n4, a4, k4, c4, rfl, hv4, hb4, hbb4⟩
        have HK4 := Lib.hid (HK3.out.below hbb4 HK3.out.lt)
        have hb5 := below_s6' hb4 HBS.out (.int .i64 2) (.bool n4) (.slice a4 k4 c4) (.int .u64 0) (.string ByteArray.empty) (.slice none 0 0)
        have C1 := Lib.hid (EU.out _ _ hb5 (hv4.far6 HK4.out (by simp [bv])))
        have HB5 := Lib.hid hb5
        obtain ⟨q0, q1, q2, q3, q4, q5⟩ := val_cells HK4.out
        have fz := HK4.out.free
        have f0 := fz 0
        have f1 := fz 1
        have f2 := fz 2
        have f3 := fz 3
        have f4 := fz 4
        have f5 := fz 5
        have hlt := HK4.out.lt
        clear hv4 hb4 hbb4 hb5 T fz
        go_wp2_with fail
        refine C1.out.mono ?_
        rintro e w5 ⟨rfl, hb5⟩
        have HB3 := Lib.hid hb5
        clear hb5 C1
        go_wp2_with fail
        refine (SM.out _ HB3.out).mono ?_
        rintro e w7 ⟨v4, rfl, hs4, hb4, _⟩
        obtain ⟨n7, a7, k7, c7, rfl⟩ := hs4.form
        have T := Lib.hid (TD.out _ _ hb4 hs4)
        clear hs4 hb4 TD SM
        go_wp2_with fail
        refine T.out.mono ?_
        rintro e w8 ⟨n5, a5, k5, c5, rfl, hv5, hb5, _⟩
        have E := Lib.hid (EU.out _ _ hb5 hv5)
        clear hv5 hb5 EU T
        go_wp2_with fail
        refine E.out.mono ?_
        rintro e w9 ⟨rfl, hb6⟩
        have HE := Lib.hid hb6
        clear hb6 E
        go_wp2_with fail
        go_ret
        exact ⟨rfl, HE.out⟩
      · skip
        have hor : (0 ≤ i ∧ i < 55296) ∨ (57344 ≤ i ∧ i ≤ 1114111) ∨ i < 0 ∨ 1114111 < i := by omega
        rcases hor with ⟨h1, h2⟩ | ⟨h1, h2⟩ | h1 | h1
        · have hcp : cpB i = true := by unfold cpB; simp; omega
          have CH1 := Lib.hid (CH.out _ _ HB2.out HP2.out)
          rw [hcp] at CH1
          clear CH hf hcp hs
          go_wp2_with fail
          refine CH1.out.mono ?_
          rintro e w3 ⟨rfl, hb3⟩
          have HB3 := Lib.hid hb3
          clear hb3 CH1
          go_wp2_with fail
          refine (SM.out _ HB3.out).mono ?_
          rintro e w4 ⟨v4, rfl, hs4, hb4, _⟩
          obtain ⟨n4, a4, k4, c4, rfl⟩ := hs4.form
          have T := Lib.hid (TD.out _ _ hb4 hs4)
          clear hs4 hb4 TD SM
          go_wp2_with fail
          refine T.out.mono ?_
          rintro e w5 ⟨n5, a5, k5, c5, rfl, hv5, hb5, _⟩
          have E := Lib.hid (EU.out _ _ hb5 hv5)
          clear hv5 hb5 EU T
          go_wp2_with fail
          refine E.out.mono ?_
          rintro e w6 ⟨rfl, hb6⟩
          have HE := Lib.hid hb6
          clear hb6 E
          go_wp2_with fail
          go_ret
          exact ⟨rfl, HE.out⟩
        · have hcp : cpB i = true := by unfold cpB; simp; omega
          have CH1 := Lib.hid (CH.out _ _ HB2.out HP2.out)
          rw [hcp] at CH1
          clear CH hf hcp hs
          go_wp2_with fail
          refine CH1.out.mono ?_
          rintro e w3 ⟨rfl, hb3⟩
          have HB3 := Lib.hid hb3
          clear hb3 CH1
          go_wp2_with fail
          refine (SM.out _ HB3.out).mono ?_
          rintro e w4 ⟨v4, rfl, hs4, hb4, _⟩
          obtain ⟨n4, a4, k4, c4, rfl⟩ := hs4.form
          have T := Lib.hid (TD.out _ _ hb4 hs4)
          clear hs4 hb4 TD SM
          go_wp2_with fail
          refine T.out.mono ?_
          rintro e w5 ⟨n5, a5, k5, c5, rfl, hv5, hb5, _⟩
          have E := Lib.hid (EU.out _ _ hb5 hv5)
          clear hv5 hb5 EU T
          go_wp2_with fail
          refine E.out.mono ?_
          rintro e w6 ⟨rfl, hb6⟩
          have HE := Lib.hid hb6
          clear hb6 E
          go_wp2_with fail
          go_ret
          exact ⟨rfl, HE.out⟩
        · have hcp : cpB i = false := by unfold cpB; simp; omega
          have CH1 := Lib.hid (CH.out _ _ HB2.out HP2.out)
          rw [hcp] at CH1
          clear CH hf hcp hs
          go_wp2_with fail
          refine CH1.out.mono ?_
          rintro e w3 ⟨rfl, hb3⟩
          have HB3 := Lib.hid hb3
          clear hb3 CH1
          go_wp2_with fail
          refine (SM.out _ HB3.out).mono ?_
          rintro e w4 ⟨v4, rfl, hs4, hb4, _⟩
          obtain ⟨n4, a4, k4, c4, rfl⟩ := hs4.form
          have T := Lib.hid (TD.out _ _ hb4 hs4)
          clear hs4 hb4 TD SM
          go_wp2_with fail
          refine T.out.mono ?_
          rintro e w5 ⟨n5, a5, k5, c5, rfl, hv5, hb5, _⟩
          have E := Lib.hid (EU.out _ _ hb5 hv5)
          clear hv5 hb5 EU T
          go_wp2_with fail
          refine E.out.mono ?_
          rintro e w6 ⟨rfl, hb6⟩
          have HE := Lib.hid hb6
          clear hb6 E
          go_wp2_with fail
          go_ret
          exact ⟨rfl, HE.out⟩
        · have hcp : cpB i = false := by unfold cpB; simp; omega
          have CH1 := Lib.hid (CH.out _ _ HB2.out HP2.out)
          rw [hcp] at CH1
          have hd1 : decide (i < 1114112) = false := by simp; omega
          clear CH hf hcp hs
          go_wp2_with fail
          refine CH1.out.mono ?_
          rintro e w3 ⟨rfl, hb3⟩
          have HB3 := Lib.hid hb3
          clear hb3 CH1
          go_wp2_with fail
          refine (SM.out _ HB3.out).mono ?_
          rintro e w4 ⟨v4, rfl, hs4, hb4, _⟩
          obtain ⟨n4, a4, k4, c4, rfl⟩ := hs4.form
          have T := Lib.hid (TD.out _ _ hb4 hs4)
          clear hs4 hb4 TD SM
          go_wp2_with fail
          refine T.out.mono ?_
          rintro e w5 ⟨n5, a5, k5, c5, rfl, hv5, hb5, _⟩
          have E := Lib.hid (EU.out _ _ hb5 hv5)
          clear hv5 hb5 EU T
          go_wp2_with fail
          refine E.out.mono ?_
          rintro e w6 ⟨rfl, hb6⟩
          have HE := Lib.hid hb6
          clear hb6 E
          go_wp2_with fail
          go_ret
          exact ⟨rfl, HE.out⟩
    · have hf2 : fits64 i = false := by simpa using hf
      have hcp : cpB i = false := by unfold cpB; unfold fits64 at hf2; simp at hf2 ⊢; omega
      rw [hf2]
      have CH1 := Lib.hid (CH.out _ _ HB2.out HP2.out)
      rw [hcp] at CH1
      clear CH hf hf2 hcp
      go_wp2_with fail
      refine CH1.out.mono ?_
      rintro e w3 ⟨rfl, hb3⟩
      have HB3 := Lib.hid hb3
      clear hb3 CH1
      go_wp2_with fail
      refine (SM.out _ HB3.out).mono ?_
      rintro e w4 ⟨v4, rfl, hs4, hb4, _⟩
      obtain ⟨n4, a4, k4, c4, rfl⟩ := hs4.form
      have T := Lib.hid (TD.out _ _ hb4 hs4)
      clear hs4 hb4 TD SM
      go_wp2_with fail
      refine T.out.mono ?_
      rintro e w5 ⟨n5, a5, k5, c5, rfl, hv5, hb5, _⟩
      have E := Lib.hid (EU.out _ _ hb5 hv5)
      clear hv5 hb5 EU T
      go_wp2_with fail
      refine E.out.mono ?_
      rintro e w6 ⟨rfl, hb6⟩
      have HE := Lib.hid hb6
      clear hb6 E
      go_wp2_with fail
      go_ret
      exact ⟨rfl, HE.out⟩
  · clear ha hms
    go_enter Try.func3, Try.ntmps3
    go_wp2_with fail
    go_ret
    exact ⟨rfl, Below.refl _ _⟩
end Go.Proofs.Ythnmkbdeoahiaaa
