/- spec.TextMethod and spec.Asked at the name isdigit; the method isdigit; the law. -/
import Derived.Test.YtoggalnjjhcmkaaGreatCases
import Derived.LoopTactic
import Derived.Laws.RangeString
import Derived.Laws.RangeAny
namespace Go.Proofs.YtoggalnjjhcmkaaGreat
open Go.RowKit
set_option linter.unusedVariables false
set_option linter.unusedSimpArgs false
set_option maxRecDepth 100000

theorem blk_zero (w : World) : Blk (w.alloc (.cells #[.int .i64 0, .bool false, .slice none 0 0, .int .u64 0, .string { data := #[] }, .slice none 0 0] 26)) w.heap.size 26 [.int .i64 0, .bool false, .slice none 0 0, .int .u64 0, .string { data := #[] }, .slice none 0 0] := Blk.new w _ [.int .i64 0, .bool false, .slice none 0 0, .int .u64 0, .string { data := #[] }, .slice none 0 0]
theorem six_set {w' : World} {g : Nat} {x0 x1 x2 x3 x4 x5 : Value} (h : Blk w' g 26 [x0, x1, x2, x3, x4, x5]) (v0 v1 v2 v3 v4 v5 : Value) :
    Blk ((((((w'.setCell ⟨g, 0, none⟩ v0).setCell ⟨g, 1, none⟩ v1).setCell ⟨g, 2, none⟩ v2).setCell ⟨g, 3, none⟩ v3).setCell ⟨g, 4, none⟩ v4).setCell ⟨g, 5, none⟩ v5) g 26 [v0, v1, v2, v3, v4, v5] :=
  (((((h.set 0 v0).set 1 v1).set 2 v2).set 3 v3).set 4 v4).set 5 v5
set_option maxHeartbeats 3200000 in
theorem textDigit_any (s : ByteArray) (w : World) (hs : s.size ≤ 60) :
    Calls Tryz.prog 48 #[.string s, .string isdigitN, .slice none 0 0] w fun e w' => e = .returned (.tuple #[.agg #[.int .i64 1, .bool false, .slice none 0 0, .int .u64 (if allDig s s.size then 1 else 0), .string ByteArray.empty, .slice none 0 0], .bool true]) ∧ Below w.heap.size w w' := by
  obtain ⟨u, hu⟩ : ∃ u, u = if allDig s s.size = true then (1 : Int) else 0 := ⟨_, rfl⟩
  rw [← hu]
  obtain ⟨W0, hW0⟩ : ∃ W0, W0 = w.alloc (.cells #[.int .i64 0, .bool false, .slice none 0 0, .int .u64 0, .string { data := #[] }, .slice none 0 0] 26) := ⟨_, rfl⟩
  have hz : Blk W0 w.heap.size 26 [.int .i64 0, .bool false, .slice none 0 0, .int .u64 0, .string { data := #[] }, .slice none 0 0] := by rw [hW0]; exact blk_zero w
  have hb0 : Below w.heap.size w W0 := by rw [hW0]; exact (Below.refl _ _).alloc (Nat.le_refl _) _
  have hsz : W0.heap.size = w.heap.size + 1 := by rw [hW0]; simp
  have C : Hid (Calls Tryz.prog 76 #[.string s, .string { data := #[105, 115, 100, 105, 103, 105, 116] }] W0 fun e w' => e = .returned (.agg #[.int .i64 1, .bool false, .slice none 0 0, .int .u64 u, .string ByteArray.empty, .slice none 0 0]) ∧ Blk w' w.heap.size 26 [.int .i64 0, .bool false, .slice none 0 0, .int .u64 0, .string { data := #[] }, .slice none 0 0] ∧ Below w.heap.size w w') := Lib.hid ((casesDigit_any s W0 hs).mono (by
    rintro e w' ⟨rfl, hb⟩
    exact ⟨by rw [hu], hz.below hb (by omega), hb0.trans (hb.mono (by omega))⟩))
  clear hz hb0 hsz hu
  unfold isdigitN
  subst hW0
  go_enter Tryz.func48, Tryz.ntmps48
  go_wp2_with fail
  refine C.out.mono ?_
  rintro e w' ⟨rfl, hk, hb⟩
  have HB := Lib.hid hb
  obtain ⟨⟨c0, c1, c2, c3, c4, c5⟩, f0, f1, f2, f3, f4, f5⟩ := six_ready (w := w) hk
  clear hb hk C
  go_wp2_with fail
  have l0 := lt_of_cell c0
  refine bodyPost_ret (v := .tuple #[.agg #[.int .i64 1, .bool false, .slice none 0 0, .int .u64 u, .string ByteArray.empty, .slice none 0 0], .bool true]) (by simp [results, Tryz.results48, go_sem, c0, c1, c2, c3, c4, c5]) rfl ?_
  exact ⟨rfl, six_below HB.out (Nat.le_refl _) _ _ _ _ _ _⟩
set_option maxHeartbeats 3200000 in
theorem askedDigit_any (s : ByteArray) (w : World) (hs : s.size ≤ 60) :
    Calls Tryz.prog 21 #[.string s, .string isdigitN, .slice none 0 0] w fun e w' => e = .returned (.tuple #[.agg #[.int .i64 1, .bool false, .slice none 0 0, .int .u64 (if allDig s s.size then 1 else 0), .string ByteArray.empty, .slice none 0 0], .slice none 0 0, .bool true]) ∧ Below w.heap.size w w' := by
  obtain ⟨u, hu⟩ : ∃ u, u = if allDig s s.size = true then (1 : Int) else 0 := ⟨_, rfl⟩
  rw [← hu]
  obtain ⟨W0, hW0⟩ : ∃ W0, W0 = w.alloc (.cells #[.int .i64 0, .bool false, .slice none 0 0, .int .u64 0, .string { data := #[] }, .slice none 0 0] 26) := ⟨_, rfl⟩
  have hz : Blk W0 w.heap.size 26 [.int .i64 0, .bool false, .slice none 0 0, .int .u64 0, .string { data := #[] }, .slice none 0 0] := by rw [hW0]; exact blk_zero w
  have hb0 : Below w.heap.size w W0 := by rw [hW0]; exact (Below.refl _ _).alloc (Nat.le_refl _) _
  have hsz : W0.heap.size = w.heap.size + 1 := by rw [hW0]; simp
  have C : Hid (Calls Tryz.prog 48 #[.string s, .string { data := #[105, 115, 100, 105, 103, 105, 116] }, .slice none 0 0] W0 fun e w' => e = .returned (.tuple #[.agg #[.int .i64 1, .bool false, .slice none 0 0, .int .u64 u, .string ByteArray.empty, .slice none 0 0], .bool true]) ∧ Blk w' w.heap.size 26 [.int .i64 0, .bool false, .slice none 0 0, .int .u64 0, .string { data := #[] }, .slice none 0 0] ∧ Below w.heap.size w w') := Lib.hid ((textDigit_any s W0 hs).mono (by
    rintro e w' ⟨rfl, hb⟩
    exact ⟨by rw [hu], hz.below hb (by omega), hb0.trans (hb.mono (by omega))⟩))
  clear hz hb0 hsz hu
  unfold isdigitN
  subst hW0
  go_enter Tryz.func21, Tryz.ntmps21
  go_wp2_with fail
  refine C.out.mono ?_
  rintro e w' ⟨rfl, hk, hb⟩
  have hk2 := six_set hk (.int .i64 1) (.bool false) (.slice none 0 0) (.int .u64 u) (.string ByteArray.empty) (.slice none 0 0)
  have HB2 := Lib.hid (six_below (w := w) hb (Nat.le_refl _) (.int .i64 1) (.bool false) (.slice none 0 0) (.int .u64 u) (.string ByteArray.empty) (.slice none 0 0))
  obtain ⟨⟨c0, c1, c2, c3, c4, c5⟩, f0, f1, f2, f3, f4, f5⟩ := six_ready (w := w) hk
  have l0 := lt_of_cell c0
  have HK2 := Lib.hid hk2
  clear hb hk C hk2
  go_wp2_with fail
  generalize ((((((w'.setCell ⟨w.heap.size, 0, none⟩ (.int .i64 1)).setCell ⟨w.heap.size, 1, none⟩ (.bool false)).setCell ⟨w.heap.size, 2, none⟩ (.slice none 0 0)).setCell ⟨w.heap.size, 3, none⟩ (.int .u64 u)).setCell ⟨w.heap.size, 4, none⟩ (.string ByteArray.empty)).setCell ⟨w.heap.size, 5, none⟩ (.slice none 0 0)) = W2 at *
  clear c0 c1 c2 c3 c4 c5 f0 f1 f2 f3 f4 f5 l0
  obtain ⟨⟨c0, c1, c2, c3, c4, c5⟩, f0, f1, f2, f3, f4, f5⟩ := six_ready (w := w) HK2.out
  have l0 := lt_of_cell c0
  go_loop [7, 21] (fun r i => r = .slice none 0 0 ∧ i = .int .i64 0) (fun _ _ => 0)
  case atStart => exact ⟨rfl, rfl⟩
  case round =>
    obtain ⟨rfl, rfl⟩ := hrel
    go_wp2_with fail
    refine bodyPost_ret (v := .tuple #[.agg #[.int .i64 1, .bool false, .slice none 0 0, .int .u64 u, .string ByteArray.empty, .slice none 0 0], .slice none 0 0, .bool true]) (by simp [results, Tryz.results21, go_sem, c0, c1, c2, c3, c4, c5]) rfl ?_
    exact ⟨rfl, six_below HB2.out (Nat.le_refl _) _ _ _ _ _ _⟩

def IsDPost (b : Bool) (w : World) (e : Ending) (w' : World) : Prop := e = .returned (.tuple #[.iface 115 (.bool b), .nilIface]) ∧ Below w.heap.size w w'
theorem iter_below (w : World) (s : ByteArray) (pos : Nat) : Below w.heap.size w (w.iter s pos) := (Below.refl _ _).alloc (Nat.le_refl _) _
theorem allDig_false (s : ByteArray) (k : Nat) (h : k < s.size) (hd : digB (s[k]'h) = false) : allDig s s.size = false := by
  unfold allDig
  rw [Bool.and_eq_false_iff]; right
  rw [List.all_eq_false]
  refine ⟨s[k]'h, ?_, by simp [hd]⟩
  have hl : k < s.data.toList.length := by simpa using h
  have e : s[k]'h = s.data.toList[k]'hl := by simp; rfl
  rw [e, List.take_of_length_le (by simp)]
  exact List.getElem_mem hl
set_option maxHeartbeats 3200000 in
theorem stringIsDigit_any (b : Nat) (nm : ByteArray) (kf : Nat) (s : ByteArray) (w : World) (h : Meth w b nm kf (.iface 96 (.string s))) (h7 : ∀ i (hi : i < s.size), (s[i]'hi).toNat < 128) (p : Value) :
    Calls Tryz.prog 91 #[p, .pointer (some ⟨b, 0, none⟩), .slice none 0 0, .slice none 0 0] w (IsDPost (allDig s s.size) w) := by
  have CN := Lib.hid (name_any b nm kf _ w h)
  have CR := Lib.hid (receiver_any b nm kf _ _ w h)
  have CC := Lib.hid (fun s => unpackNone_any s)
  have CI : Hid (∀ c W, c < 128 → Calls Tryz.prog 125 #[.int .i32 c] W fun e w' => e = .returned (.bool (decide (48 ≤ c) && decide (c ≤ 57))) ∧ w' = W) := Lib.hid (fun c W h => isDigit7_any c W h)
  have ha := assertStr
  have H7 := Lib.hid h7
  obtain ⟨A, hA⟩ : ∃ A, A = allDig s s.size := ⟨_, rfl⟩
  rw [← hA]
  have HA := Lib.hid hA
  clear h h7 hA
  go_enter Tryz.func91, Tryz.ntmps91
  go_wp2_with fail
  refine CN.out.mono ?_
  rintro e w1 ⟨rfl, rfl⟩
  go_wp2_with fail
  refine (CC.out _ _).mono ?_
  rintro e w2 ⟨rfl, rfl⟩
  go_wp2_with fail
  refine CR.out.mono ?_
  rintro e w3 ⟨rfl, rfl⟩
  go_wp2_with fail
  go_loopw [13] (fun _ w' => ∃ pos, w' = w3.iter s pos ∧ pos ≤ s.size ∧ Hid (∀ i (hi : i < s.size), i < pos → digB (s[i]'hi) = true)) (fun _ w' => s.size - w'.iterPos w3.heap.size)
  case atStart => exact ⟨0, rfl, Nat.zero_le _, Lib.hid (fun i _ h => absurd h (by omega))⟩
  case round =>
    obtain ⟨pos, rfl, hp, HP⟩ := hrel
    have HB := Lib.hid (iter_below w3 s pos)
    by_cases hlt : pos < s.size
    · have h128 := H7.out pos hlt
      have hnx : ∀ ty, (Instr.next (.pointer (some ⟨w3.heap.size, 0, none⟩)) true ty).run Tryz.prog (w3.iter s pos) = _ := fun ty => run_next_ascii w3 s pos ty hlt h128
      have HB2 := Lib.hid (iter_below w3 s (pos + 1))
      obtain ⟨D, hD⟩ : ∃ D, D = digB (s[pos]'hlt) := ⟨_, rfl⟩
      have CI1 : Hid (∀ W, Calls Tryz.prog 125 #[.int .i32 ((s[pos]'hlt).toNat : Int)] W fun e w' => e = .returned (.bool D) ∧ w' = W) := Lib.hid (fun W => (CI.out _ W (by omega)).mono (by
        rintro e w' ⟨rfl, rfl⟩
        exact ⟨by rw [hD]; rfl, rfl⟩))
      have HD := Lib.hid hD
      clear hD CI H7 h128
      cases D with
      | true =>
        have HN : Hid (∀ i (hi : i < s.size), i < pos + 1 → digB (s[i]'hi) = true) := Lib.hid (fun i hi h => by
          rcases Nat.lt_or_ge i pos with h1 | h1
          · exact HP.out i hi h1
          · obtain rfl : i = pos := by omega
            exact HD.out.symm)
        clear HA
        go_wp2_with fail
        refine (CI1.out _).mono ?_
        rintro e w' ⟨rfl, rfl⟩
        go_wp2_with fail
        go_roundw
        case rel => exact ⟨pos + 1, rfl, by omega, HN⟩
        case measure => simp; omega
      | false =>
        have EA : Hid (A = false) := Lib.hid (by rw [HA.out]; exact allDig_false s pos hlt HD.out.symm)
        clear HA
        go_wp2_with fail
        refine (CI1.out _).mono ?_
        rintro e w' ⟨rfl, rfl⟩
        go_wp2_with fail
        go_ret2
        exact ⟨by rw [EA.out]; rfl, HB2.out⟩
    · have hnx : ∀ ty, (Instr.next (.pointer (some ⟨w3.heap.size, 0, none⟩)) true ty).run Tryz.prog (w3.iter s pos) = _ := fun ty => run_next_end w3 s pos ty hlt
      have EA : Hid (A = decide (0 < s.size)) := Lib.hid (by
        rw [HA.out]; unfold allDig
        have : (s.data.toList.take s.size).all digB = true := by
          rw [List.all_eq_true]
          intro x hx
          rw [List.take_of_length_le (by simp)] at hx
          obtain ⟨i, hi, rfl⟩ := List.getElem_of_mem hx
          have hi' : i < s.size := by simpa using hi
          have e : s.data.toList[i]'hi = s[i]'hi' := by simp; rfl
          rw [e]; exact HP.out i hi' (by omega)
        rw [this, Bool.and_true])
      clear HA CI H7 CN CR CC HP
      have EA2 : Hid ((!s.toList.isEmpty) = A) := Lib.hid (by
        rw [EA.out, ByteArray.toList_eq]
        have e : s.data.toList.length = s.size := by simp
        cases hc : s.data.toList with
        | nil =>
          have h0 : s.size = 0 := by rw [← e, hc]; rfl
          simp [h0]
        | cons x xs =>
          have h0 : 0 < s.size := by rw [← e, hc]; simp
          simp [h0])
      clear EA
      go_wp2_with fail
      rw [EA2.out]
      go_ret2
      exact ⟨rfl, HB.out⟩
theorem zzCallDigit_any (nm : ByteArray) (s : ByteArray) (w : World) (h7 : ∀ i (hi : i < s.size), (s[i]'hi).toNat < 128) :
    Calls Tryz.prog 86 #[.string nm, .func (.func 91) #[] #[], .string s, .slice none 0 0] w (IsDPost (allDig s s.size) w) := by
  have C : Hid (∀ b w', Meth w' b nm 91 (.iface 96 (.string s)) → Calls Tryz.prog 91 #[.pointer none, .pointer (some ⟨b, 0, none⟩), .slice none 0 0, .slice none 0 0] w' (IsDPost (allDig s s.size) w')) := Lib.hid (fun b w' h => stringIsDigit_any b nm _ s w' h h7 _)
  clear h7
  obtain ⟨A, hA⟩ : ∃ A, A = allDig s s.size := ⟨_, rfl⟩
  rw [← hA] at C ⊢
  clear hA
  go_enter Tryz.func86, Tryz.ntmps86
  go_wp2_with fail
  refine (newBuiltin_m _ _ _).mono ?_
  rintro e w1 ⟨rfl, rfl⟩
  have hm : Meth (w.alloc (.cells #[.string nm, .func (.func 91) #[] #[], .nilIface] 148)) w.heap.size nm 91 .nilIface := Blk.new w _ [.string nm, .func (.func 91) #[] #[], .nilIface]
  have HB1 : Hid (Below w.heap.size w (w.alloc (.cells #[.string nm, .func (.func 91) #[] #[], .nilIface] 148))) := (Below.refl _ _).alloc (Nat.le_refl _) _
  have BD := Lib.hid (bind_any _ _ _ _ 96 (.string s) _ hm)
  clear hm
  go_wp2_with fail
  refine BD.out.mono ?_
  rintro e w2 ⟨b, rfl, hm, hb⟩
  have HB2 := Lib.hid (HB1.out.trans (hb.mono HB1.out.size))
  have HC := Lib.hid (C.out _ _ hm)
  clear hm hb BD C
  go_wp2_with fail
  refine HC.out.mono ?_
  rintro e w3 ⟨rfl, hb3⟩
  have HB3 := Lib.hid (HB2.out.trans (hb3.mono HB2.out.size))
  clear hb3 HC
  go_wp2_with fail
  go_ret2
  exact ⟨rfl, HB3.out⟩
theorem zzIsDigit_any (s : ByteArray) (w : World) (h7 : ∀ i (hi : i < s.size), (s[i]'hi).toNat < 128) :
    Calls Tryz.prog 55 #[.string s] w (IsDPost (allDig s s.size) w) := by
  have C := Lib.hid (fun nm => zzCallDigit_any nm s w h7)
  clear h7
  obtain ⟨A, hA⟩ : ∃ A, A = allDig s s.size := ⟨_, rfl⟩
  rw [← hA] at C ⊢
  clear hA
  go_enter Tryz.func55, Tryz.ntmps55
  go_wp2_with fail
  refine (C.out _).mono ?_
  rintro e w3 ⟨rfl, hb3⟩
  have HB3 := Lib.hid hb3
  clear hb3 C
  go_wp2_with fail
  go_ret2
  exact ⟨rfl, HB3.out⟩
theorem implIsDigit_any (s : ByteArray) (w : World) (h7 : ∀ i (hi : i < s.size), (s[i]'hi).toNat < 128) :
    Calls Tryz.prog 24 #[.string s] w fun e w' => e = .returned (.tuple #[.bool (allDig s s.size), .bool true]) ∧ Below w.heap.size w w' := by
  have C := Lib.hid (zzIsDigit_any s w h7)
  have T := Lib.hid (fun b w => ofTruth_any b w)
  clear h7
  obtain ⟨A, hA⟩ : ∃ A, A = allDig s s.size := ⟨_, rfl⟩
  rw [← hA] at C ⊢
  clear hA
  go_enter Tryz.func24, Tryz.ntmps24
  go_wp2_with fail
  refine C.out.mono ?_
  rintro e w3 ⟨rfl, hb3⟩
  have HB3 := Lib.hid hb3
  clear hb3 C
  go_wp2_with fail
  refine (T.out _ _).mono ?_
  rintro e w4 ⟨rfl, hb4⟩
  have HB4 := Lib.hid (HB3.out.trans (hb4.mono HB3.out.size))
  clear hb4
  go_wp2_with fail
  go_ret2
  exact ⟨rfl, HB4.out⟩
theorem asc_seven (s : ByteArray) : ∀ i (hi : i < (asc s).size), ((asc s)[i]'hi).toNat < 128 := by
  intro i hi
  have hl : i < ((s.data.toList.take 60).map low7).length := by
    have h2 : i < (asc s).data.size := hi
    unfold asc at h2
    simpa using h2
  have e : (asc s)[i]'hi = ((s.data.toList.take 60).map low7)[i]'hl := by
    show (asc s).data[i]'hi = _
    simp [asc]
  rw [e, List.getElem_map]
  exact low7_lt _
set_option maxHeartbeats 3200000 in
theorem lawDigit (s : ByteArray) (w : World) : Calls Tryz.prog 6 #[.string s] w fun e w' => e = .returned (.bool true) ∧ Below w.heap.size w w' := by
  rcases Nat.lt_or_ge 2147483647 s.size with hbig | hs
  · go_enter Tryz.func6, Tryz.ntmps6
    go_wp2_with fail
    go_ret
    exact ⟨rfl, Below.refl _ _⟩
  · have CA := Lib.hid (ascii_any s w hs)
    have CQ := Lib.hid (fun W => askedDigit_any (asc s) W (asc_size s))
    have CI := Lib.hid (fun W => implIsDigit_any (asc s) W (asc_seven s))
    obtain ⟨A, hA⟩ : ∃ A, A = allDig (asc s) (asc s).size := ⟨_, rfl⟩
    obtain ⟨u, hu⟩ : ∃ u, u = if A = true then (1 : Int) else 0 := ⟨_, rfl⟩
    rw [← hA] at CI CQ
    rw [← hu] at CQ
    generalize asc s = t at *
    have HU := Lib.hid hu
    have HB0 : Hid (Below w.heap.size w w) := Below.refl _ _
    clear hA hu
    unfold isdigitN at CQ
    go_enter Tryz.func6, Tryz.ntmps6
    go_wp2_with fail
    refine CA.out.mono ?_
    rintro e w1 ⟨rfl, hb1⟩
    have HB1 := Lib.hid hb1
    clear hb1 CA
    go_wp2_with fail
    refine (CQ.out _).mono ?_
    rintro e w2 ⟨rfl, hb2⟩
    have HB2 := Lib.hid (HB1.out.trans (hb2.mono HB1.out.size))
    have hk : Blk (w2.alloc (.cells #[.int .i64 1, .bool false, .slice none 0 0, .int .u64 u, .string ByteArray.empty, .slice none 0 0] 26)) w2.heap.size 26 [.int .i64 1, .bool false, .slice none 0 0, .int .u64 u, .string ByteArray.empty, .slice none 0 0] := Blk.new w2 _ [.int .i64 1, .bool false, .slice none 0 0, .int .u64 u, .string ByteArray.empty, .slice none 0 0]
    have HB3 := Lib.hid (HB2.out.alloc HB2.out.size (.cells #[.int .i64 1, .bool false, .slice none 0 0, .int .u64 u, .string ByteArray.empty, .slice none 0 0] 26))
    have HK := Lib.hid hk
    clear hb2 hk
    go_wp2_with fail
    refine (CI.out _).mono ?_
    rintro e w4 ⟨rfl, hb4⟩
    have HB4 := Lib.hid (HB3.out.trans (hb4.mono HB3.out.size))
    have c3 : w4.cell? ⟨w2.heap.size, 3, none⟩ = some (.int .u64 u) := (HK.out.below hb4 HK.out.lt).cell 3 (by simp)
    clear hb4 CI HK CQ
    cases A with
    | true =>
      obtain rfl : u = 1 := by rw [HU.out]; rfl
      go_wp2_with fail
      go_ret
      exact ⟨rfl, HB4.out⟩
    | false =>
      obtain rfl : u = 0 := by rw [HU.out]; rfl
      go_wp2_with fail
      go_ret
      exact ⟨rfl, HB4.out⟩
end Go.Proofs.YtoggalnjjhcmkaaGreat
