/- spec.cases, spec.TextMethod and spec.Asked at the name isdigit. -/
import Derived.Test.YtoggalnjjhcmkaaGreatMeth
namespace Go.Proofs.YtoggalnjjhcmkaaGreat
open Go.RowKit
set_option linter.unusedVariables false
set_option linter.unusedSimpArgs false
set_option maxRecDepth 100000

def digB (b : UInt8) : Bool := decide (48 ≤ (b.toNat : Int)) && decide ((b.toNat : Int) ≤ 57)
def upB (b : UInt8) : Bool := decide (65 ≤ (b.toNat : Int)) && decide ((b.toNat : Int) ≤ 90)
def loB (b : UInt8) : Bool := decide (97 ≤ (b.toNat : Int)) && decide ((b.toNat : Int) ≤ 122)
def allDig (s : ByteArray) (k : Nat) : Bool := decide (0 < s.size) && (s.data.toList.take k).all digB
theorem allDig_zero (s : ByteArray) : allDig s 0 = decide (0 < s.size) := by simp [allDig]
theorem allDig_succ (s : ByteArray) (k : Nat) (h : k < s.size) : allDig s (k + 1) = (allDig s k && digB (s[k]'h)) := by
  have hl : k < s.data.toList.length := by simpa using h
  unfold allDig
  rw [List.take_add_one, List.getElem?_eq_getElem hl, List.all_append]
  have e : s.data.toList[k]'hl = s[k]'h := by simp; rfl
  rw [e]
  simp [Bool.and_assoc]
def isdigitN : ByteArray := ⟨#[105, 115, 100, 105, 103, 105, 116]⟩
/-- the result's cell, about to be written -/
theorem six_ready {w w' : World} {g : Nat} {x0 x1 x2 x3 x4 x5 : Value} (h : Blk w' g 26 [x0, x1, x2, x3, x4, x5]) :
    (w'.cell? ⟨g, 0, none⟩ = some x0 ∧ w'.cell? ⟨g, 1, none⟩ = some x1 ∧ w'.cell? ⟨g, 2, none⟩ = some x2 ∧ w'.cell? ⟨g, 3, none⟩ = some x3 ∧ w'.cell? ⟨g, 4, none⟩ = some x4 ∧ w'.cell? ⟨g, 5, none⟩ = some x5) ∧
    (w'.frozen? ⟨g, 0, none⟩ = false ∧ w'.frozen? ⟨g, 1, none⟩ = false ∧ w'.frozen? ⟨g, 2, none⟩ = false ∧ w'.frozen? ⟨g, 3, none⟩ = false ∧ w'.frozen? ⟨g, 4, none⟩ = false ∧ w'.frozen? ⟨g, 5, none⟩ = false) :=
  ⟨⟨h.cell 0 (by simp), h.cell 1 (by simp), h.cell 2 (by simp), h.cell 3 (by simp), h.cell 4 (by simp), h.cell 5 (by simp)⟩, ⟨h.free 0, h.free 1, h.free 2, h.free 3, h.free 4, h.free 5⟩⟩
theorem six_below {w w' : World} {g : Nat} (hb : Below w.heap.size w w') (hg : w.heap.size ≤ g) (v0 v1 v2 v3 v4 v5 : Value) :
    Below w.heap.size w ((((((w'.setCell ⟨g, 0, none⟩ v0).setCell ⟨g, 1, none⟩ v1).setCell ⟨g, 2, none⟩ v2).setCell ⟨g, 3, none⟩ v3).setCell ⟨g, 4, none⟩ v4).setCell ⟨g, 5, none⟩ v5) :=
  (((((hb.setCell hg v0).setCell hg v1).setCell hg v2).setCell hg v3).setCell hg v4).setCell hg v5
/-- what the rounds of spec.cases keep -/
def CaRel (s : ByteArray) (w0 : World) (b : Nat) (n : Nat) (a i : Value) (wr : World) : Prop :=
  ∃ (k : Nat) (L : List Value), k ≤ s.size ∧ i = .int .i64 (k : Int) ∧ (∃ ab, a = .bool ab ∧ Hid (ab = allDig s k)) ∧ Hid (L.length = n) ∧ Hid (BlkM wr b 5 L) ∧ Hid (Below b w0 wr)
set_option maxHeartbeats 32000000 in
theorem casesDigit_any (s : ByteArray) (w : World) (hs : s.size ≤ 60) :
    Calls Tryz.prog 76 #[.string s, .string isdigitN] w fun e w' => e = .returned (.agg #[.int .i64 1, .bool false, .slice none 0 0, .int .u64 (if allDig s s.size then 1 else 0), .string ByteArray.empty, .slice none 0 0]) ∧ Below w.heap.size w w' := by
  obtain ⟨u, hu⟩ : ∃ u, u = if allDig s s.size = true then (1 : Int) else 0 := ⟨_, rfl⟩
  rw [← hu]
  have HU := Lib.hid hu
  clear hu
  have hcv := fun (W : World) (t : ByteArray) => run_bytes_of_string (P := Tryz.prog) W 9 22 5 t Tryz.underlying9 Tryz.underlying22 Tryz.underlying5
  obtain ⟨Wa, hWa⟩ : ∃ Wa, Wa = w.alloc (.cells #[.int .i64 0, .bool false, .slice none 0 0, .int .u64 0, .string { data := #[] }, .slice none 0 0] 26) := ⟨_, rfl⟩
  obtain ⟨cap, hcap⟩ : ∃ cap, cap = grownCap Wa s.size 0 5 := ⟨_, rfl⟩
  obtain ⟨W0, hW0⟩ : ∃ W0, W0 = (Wa.alloc (.cells (bytesRow s cap) 5 ((bytesRow s cap).size, (bytesRow s cap).size + 1))).drew := ⟨_, rfl⟩
  have hsa : Wa.heap.size = w.heap.size + 1 := by rw [hWa]; simp
  obtain ⟨n, hn⟩ : ∃ n, n = (bytesRow s cap).toList.length := ⟨_, rfl⟩
  have hns : s.size ≤ n := by rw [hn]; simp [bytesRow]
  have hblk : BlkM W0 (w.heap.size + 1) 5 (bytesRow s cap).toList := by
    rw [hW0]; unfold BlkM
    have e : (bytesRow s cap).toList.length = (bytesRow s cap).size := by simp
    rw [e, Array.toArray_toList]
    have := heap_alloc_new Wa (.cells (bytesRow s cap) 5 ((bytesRow s cap).size, (bytesRow s cap).size + 1))
    rw [hsa] at this
    exact this
  have hba : Below w.heap.size w Wa := by rw [hWa]; exact (Below.refl _ _).alloc (Nat.le_refl _) _
  have hb0 : Below w.heap.size w W0 := by rw [hW0]; exact below_drew1 (hba.alloc (by omega) _)
  have hz : Blk Wa w.heap.size 26 [.int .i64 0, .bool false, .slice none 0 0, .int .u64 0, .string { data := #[] }, .slice none 0 0] := by rw [hWa]; exact Blk.new w _ [.int .i64 0, .bool false, .slice none 0 0, .int .u64 0, .string { data := #[] }, .slice none 0 0]
  have hz0 : Blk W0 w.heap.size 26 [.int .i64 0, .bool false, .slice none 0 0, .int .u64 0, .string { data := #[] }, .slice none 0 0] := by
    have hb1 : Below Wa.heap.size Wa W0 := by rw [hW0]; exact below_drew1 ((Below.refl _ _).alloc (Nat.le_refl _) _)
    exact hz.below hb1 (by omega)
  obtain ⟨P0, hP0⟩ : ∃ P0, P0 = decide (0 < s.size) := ⟨_, rfl⟩
  have START : Hid (CaRel s W0 (w.heap.size + 1) n (.bool P0) (.int .i64 0) W0) := Lib.hid ⟨0, _, Nat.zero_le _, rfl, ⟨_, rfl, Lib.hid (by rw [hP0]; exact (allDig_zero s).symm)⟩, Lib.hid hn.symm, Lib.hid hblk, Lib.hid (Below.refl _ _)⟩
  have HB0 := Lib.hid hb0; have HZ := Lib.hid hz0; have HN := Lib.hid hns
  have BV : Hid (∀ b u W, Hid (u = if b = true then (1 : Int) else 0) → Below w.heap.size w W → Calls Tryz.prog 61 #[.bool b] W fun e w' => e = .returned (.agg #[.int .i64 1, .bool false, .slice none 0 0, .int .u64 u, .string ByteArray.empty, .slice none 0 0]) ∧ Below W.heap.size W w') := Lib.hid (fun b u W hu _ => by rw [hu.out]; exact boolVal_any b W)
  clear hns hblk hba hb0 hz hz0 hn hsa
  unfold isdigitN
  go_enter Tryz.func76, Tryz.ntmps76
  go_wp2_with fail
  rw [← hWa, ← hcap, ← hW0, ← hP0]
  clear hcap hW0 hcv hWa hP0
  go_loopw [6, 8] (CaRel s W0 (w.heap.size + 1) n) (fun _ i _ => s.size - (intOf i).toNat)
  case atStart => exact START.out
  case round =>
    obtain ⟨k, L, hk, rfl, ⟨ab, rfl, HA⟩, HL, HK, HB⟩ := hrel
    clear START
    by_cases hlt : k < s.size
    · have hkL : k < L.length := by rw [HL.out]; have := HN.out; omega
      have c0 := HK.out.cell k hkL
      have f0 := HK.out.free k hkL
      have HS := Lib.hid (allDig_succ s k hlt)
      have CU := Lib.hid (fun W => specUpper_any ((s[k]'hlt).toNat : Int) W)
      have CL := Lib.hid (fun W => specLower_any ((s[k]'hlt).toNat : Int) W)
      have CF := Lib.hid (fun W => specFigure_any ((s[k]'hlt).toNat : Int) W)
      obtain ⟨U, hU⟩ : ∃ U, U = (decide ((65 : Int) ≤ ((s[k]'hlt).toNat : Int)) && decide (((s[k]'hlt).toNat : Int) ≤ 90)) := ⟨_, rfl⟩
      obtain ⟨O, hO⟩ : ∃ O, O = (decide ((97 : Int) ≤ ((s[k]'hlt).toNat : Int)) && decide (((s[k]'hlt).toNat : Int) ≤ 122)) := ⟨_, rfl⟩
      obtain ⟨F, hF⟩ : ∃ F, F = (decide ((48 : Int) ≤ ((s[k]'hlt).toNat : Int)) && decide (((s[k]'hlt).toNat : Int) ≤ 57)) := ⟨_, rfl⟩
      have HX : Hid (∀ u : Value, CaRel s W0 (w.heap.size + 1) n (.bool (ab && F)) (.int .i64 ((k : Int) + 1)) (wr.setCell ⟨w.heap.size + 1, k, none⟩ u)) := Lib.hid (fun u =>
        ⟨k + 1, _, hlt, by go_num, ⟨_, rfl, Lib.hid (by rw [HS.out, ← HA.out, hF]; rfl)⟩, Lib.hid (by rw [List.length_set]; exact HL.out), Lib.hid (HK.out.set k u), Lib.hid (HB.out.setCell (Nat.le_refl _) _)⟩)
      have HY : Hid (CaRel s W0 (w.heap.size + 1) n (.bool (ab && F)) (.int .i64 ((k : Int) + 1)) wr) := Lib.hid
        ⟨k + 1, L, hlt, by go_num, ⟨_, rfl, Lib.hid (by rw [HS.out, ← HA.out, hF]; rfl)⟩, HL, HK, HB⟩
      have hUO : U = true → O = false := by
        rw [hU, hO]; simp; omega
      rw [← hU] at CU; rw [← hO] at CL; rw [← hF] at CF
      clear hU hO hF HS HL HK HB HA
      generalize L.getD k undef = cv at *
      cases U <;> cases O <;> cases F <;> cases ab <;> (try (have hq := hUO rfl; simp at hq; done))
      all_goals clear hUO
      all_goals rcases Nat.eq_zero_or_pos k with rfl | hk1
      all_goals try simp only [Int.natCast_zero, Int.zero_add] at *
      all_goals first
        | (go_wp2_with (first | (go_at_call 111; refine (CU.out _).mono ?_; rintro e w' ⟨rfl, rfl⟩) | (go_at_call 112; refine (CL.out _).mono ?_; rintro e w' ⟨rfl, rfl⟩) | (go_at_call 113; refine (CF.out _).mono ?_; rintro e w' ⟨rfl, rfl⟩))
           all_goals first
           | exact ⟨HY.out, by (simp [intOf]; omega)⟩
           | (go_roundw
              case rel => first | exact HY.out | exact HX.out _ | ((repeat apply Exists.intro); first | exact ⟨HY.out, rfl⟩ | exact ⟨HX.out _, rfl⟩)
              case measure => first | (simp [intOf]; done) | (simp [intOf]; omega)))
    · obtain rfl : k = s.size := by omega
      have HA1 : Hid (ab = allDig s s.size) := HA
      have HB1 : Hid (Below w.heap.size w wr) := Lib.hid (HB0.out.trans (HB.out.mono (by omega)))
      have hz1 : Blk wr w.heap.size 26 _ := HZ.out.below HB.out (by omega)
      have HZ1 := Lib.hid hz1
      have FIN : Hid (∀ w', Below wr.heap.size wr w' → Blk w' w.heap.size 26 [.int .i64 0, .bool false, .slice none 0 0, .int .u64 0, .string { data := #[] }, .slice none 0 0] ∧ Below w.heap.size w w') := Lib.hid (fun w' h => ⟨HZ1.out.below h HZ1.out.lt, HB1.out.trans (h.mono HB1.out.size)⟩)
      have HU1 : Hid (u = if ab = true then (1 : Int) else 0) := Lib.hid (by rw [HU.out, HA.out])
      clear HU
      clear hz1 HA HB0 HZ HN HL HK HB
      go_wp2_with fail
      refine (BV.out _ u _ HU1 HB1.out).mono ?_
      rintro e w' ⟨rfl, hb⟩
      obtain ⟨hk, hbw⟩ := FIN.out _ hb
      have HBv := Lib.hid hbw
      obtain ⟨⟨c0, c1, c2, c3, c4, c5⟩, f0, f1, f2, f3, f4, f5⟩ := six_ready (w := w) hk
      clear hb hbw hk
      go_wp2_with fail
      have l0 := lt_of_cell c0
      refine bodyPost_ret (v := .agg #[.int .i64 1, .bool false, .slice none 0 0, .int .u64 u, .string ByteArray.empty, .slice none 0 0]) (by simp [results, Tryz.results76, go_sem, c0, c1, c2, c3, c4, c5]) rfl ?_
      refine ⟨rfl, ?_⟩
      exact six_below HBv.out (Nat.le_refl _) _ _ _ _ _ _
end Go.Proofs.YtoggalnjjhcmkaaGreat
