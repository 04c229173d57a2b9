/- syntax.Quote, walked (printed by genquo.py). -/
import Derived.Test.YtoghnefgflkpdaaDoorQuo
namespace Go.Proofs.YtoghnefgflkpdaaDoor
open Go.RowKit
set_option linter.unusedVariables false
set_option linter.unusedSimpArgs false
set_option maxRecDepth 1000000

set_option maxHeartbeats 16000000 in
theorem quote_any (T : Lib.PrintTabs) (s : ByteArray) (b : Bool) (w : World) (hs : s.size ≤ 2147483647) (hT : Lib.PrintTabsAt (ren339.g 20) (ren339.g 21) (ren339.g 22) (ren339.g 23) T w) (hU : Lib.Utf8Tabs (ren197.g 3) (ren197.g 4) w) :
    Calls Tryd.prog 8 #[.string s, .bool b] w fun e w' => e = .returned (.string (strOfNums ((if b then [98] else []) ++ Lib.quoteZ T s))) ∧ Below w.heap.size w w' := by
  obtain ⟨i0, hi, hz0, hz1, hz2⟩ := info_parts (P := Tryd.prog) (e := 5) (z := .int .u8 0) (size := 1) (bytes := 1) (by kernel_rfl)
  obtain ⟨c, hc⟩ : ∃ c, c = 3 * s.size / 2 := ⟨_, rfl⟩
  have hcI : 3 * (s.size : Int) / 2 = (c : Int) := by omega
  have hc2 : c ≤ 140737488355327 := by omega
  have Hc : Hid (c = 3 * s.size / 2) := hc
  have HT := Lib.hid hT; have HU := Lib.hid hU
  obtain ⟨Z, hZ⟩ : ∃ Z, Z = (if b then [98] else []) ++ Lib.quoteZ T s := ⟨_, rfl⟩
  rw [← hZ]
  have HZ := Lib.hid hZ
  clear hc hT hU hZ
  go_enter Tryd.func8, Tryd.ntmps8
  go_upto_if 17 with (at_make; refine wpList_make_own _ rfl _ _ 27 rfl (w.heap.size + 1) 5 i0 (.int .u8 0) 1 Tryd.underlying27 hi hz0 hz1 _ _ _ c rfl rfl (by first | rfl | assumption) (by rw [hz2]; omega) (by unfold maxLen; omega) (by simp) ?_; intro w1 hown hg)
  rw [show ∀ o, (w.alloc o).heap.size = w.heap.size + 1 from fun o => by simp] at hown
  have hq0 : Hid (∃ W1, Below w.heap.size w W1 ∧ Tmp w.heap.size W1 ∧ Lib.OwnBuf (w.heap.size + 1) 5 (.slice (some ⟨w.heap.size + 1, 0, none⟩) 0 c) 0 [] W1 w1) := by
    refine ⟨_, (Below.refl _ _).alloc (Nat.le_refl _) _, ?_, World.ownsRowF_of hown, (Below.refl _ _).grown hg (by simp) (by intro k hk; cases hk), ?_⟩
    · intro j hj
      match j, hj with
      | 0, _ | 1, _ | 2, _ | 3, _ => simp
    · have := hg.size; simp at this; omega
  clear hown hg
  go_cut [6] from 18 to 20 (fun v wx => ∃ l : List Int, Hid (l = (if b then [98] else [])) ∧ l.length ≤ 1 ∧ Hid (QB w w.heap.size v l wx))
  case first =>
    obtain ⟨W1, hW, hTm, hb0⟩ := hq0.out
    cases b with
    | true =>
      have hb := hb0
      go_wp2_with (at_builtin; first | (refine Lib.wpList_append_byte rfl _ _ 27 rfl (w.heap.size + 1) 5 i0 Tryd.underlying27 hi hz0 hz1 hz2 _ _ _ rfl W1 _ _ (by exact hb) rfl (by first | omega | (simp only [Lib.size_two]; omega)) ?_; intro _ _ hb) | (refine Lib.wpList_append_text rfl _ _ 27 9 rfl (w.heap.size + 1) 5 i0 Tryd.underlying27 Tryd.underlying9 hi hz0 hz1 hz2 _ _ _ rfl W1 (by exact hb) _ rfl (by first | omega | (simp only [Lib.size_two]; omega)) ?_; intro _ _ hb))
      go_meet
      case rel => exact ⟨[98], rfl, by simp, W1, hW, hTm, by simpa [Lib.intCells] using hb⟩
    | false =>
      go_wp2_with (at_builtin; first | (refine Lib.wpList_append_byte rfl _ _ 27 rfl (w.heap.size + 1) 5 i0 Tryd.underlying27 hi hz0 hz1 hz2 _ _ _ rfl W1 _ _ (by exact hb) rfl (by first | omega | (simp only [Lib.size_two]; omega)) ?_; intro _ _ hb) | (refine Lib.wpList_append_text rfl _ _ 27 9 rfl (w.heap.size + 1) 5 i0 Tryd.underlying27 Tryd.underlying9 hi hz0 hz1 hz2 _ _ _ rfl W1 (by exact hb) _ rfl (by first | omega | (simp only [Lib.size_two]; omega)) ?_; intro _ _ hb))
      go_meet
      case rel => exact ⟨[], rfl, by simp, W1, hW, hTm, by simpa [Lib.intCells] using hb0⟩
  case rest =>
  obtain ⟨pre, Hpre, hpl, hqb⟩ := hcut
  obtain ⟨W1, hW, hTm, hb0⟩ := hqb.out
  clear hqb hq0
  have hb := hb0
  go_big_wp2_with (at_builtin; first | (refine Lib.wpList_append_byte rfl _ _ 27 rfl (w.heap.size + 1) 5 i0 Tryd.underlying27 hi hz0 hz1 hz2 _ _ _ rfl W1 _ _ (by exact hb) rfl (by first | omega | (simp only [Lib.size_two]; omega)) ?_; intro _ _ hb) | (refine Lib.wpList_append_text rfl _ _ 27 9 rfl (w.heap.size + 1) 5 i0 Tryd.underlying27 Tryd.underlying9 hi hz0 hz1 hz2 _ _ _ rfl W1 (by exact hb) _ rfl (by first | omega | (simp only [Lib.size_two]; omega)) ?_; intro _ _ hb))
  have hqb : Hid (QB w w.heap.size _ (pre ++ [34]) _) := ⟨W1, hW, hTm, by simpa [Lib.intCells] using hb⟩
  clear hb; clear hb; clear hb0 hW hTm W1
  go_loopw [0, 6] (fun vs vb wr => ∃ (rest : ByteArray) (acc : List Int) (f : Nat), vs = .string rest ∧ rest.size ≤ f ∧ Hid (QB w w.heap.size vb (pre ++ [34] ++ acc) wr) ∧ Hid (acc ++ Lib.quoteFrom T f rest = Lib.quoteFrom T s.size s) ∧ acc.length + 10 * rest.size ≤ 10 * s.size)
    (fun vs _ _ => match vs with | .string r => r.size | _ => 0)
  case atStart => exact ⟨s, [], s.size, rfl, Nat.le_refl _, by simpa using hqb, rfl, by simp⟩
  case round =>
    clear hqb
    obtain ⟨rest, acc, f, rfl, hf, hqb, hq, hl⟩ := hrel
    obtain ⟨L, hL⟩ : ∃ L, L = pre ++ [34] ++ acc := ⟨_, rfl⟩
    have hLl : L.length ≤ 30000000000 := by rw [hL]; simp; omega
    rw [← hL] at hqb
    have HL : Hid (L = pre ++ [34] ++ acc) := hL
    clear hL
    have hBel := Lib.hid hqb.out.below
    by_cases h0 : 0 < rest.size
    · have h0' : (0 : Int) < (rest.size : Int) := by omega
      by_cases hA : (rest[0]'h0).toNat < 128
      · obtain ⟨C, hC⟩ : ∃ C, C = (rest[0]'h0).toNat := ⟨_, rfl⟩
        have hC' : ((rest[0]'h0).toNat : Int) = (C : Int) := by rw [hC]
        have hCA : C < 128 := by rw [hC]; exact hA
        have hd : Utf8.decode rest 0 = (C, 1) := by rw [hC]; exact ascii_decode rest h0 hA
        have HK : Hid (1 = (Utf8.decode rest 0).2) := by show _ = _; rw [hd]
        have Hst := Lib.hid (show Lib.quoteStep T rest = Lib.escRune T (C : Int) by
          have := Lib.quoteStep_good T rest (by rw [hd]; simp; omega)
          rw [hd] at this; exact this)
        have hw32 : IntKind.i32.wrap (C : Int) = (C : Int) := by
          unfold IntKind.wrap; simp [IntKind.bits, IntKind.signed]; omega
        have hw8 : IntKind.u8.wrap (C : Int) = (C : Int) := by
          unfold IntKind.wrap; simp [IntKind.bits, IntKind.signed]; omega
        have hge : ¬ (128 : Int) ≤ (C : Int) := by omega
        have hne : ¬ (C : Int) = 65533 := by omega
        have cP := isPrint_q T (C : Int) wr (by omega) (by omega) (Go.Proofs.printTabs_below HT.out hBel.out)
        obtain ⟨W1, hW, hTm, hb0⟩ := hqb.out
        have hbq := fun q => hb0.drewN q
        clear hd hA hC
        by_cases hQ : C = 34 ∨ C = 92
        · clear cP hbq
          have hb := hb0
          rcases hQ with rfl | rfl
          · have hst := Lib.hid (Hst.out.trans (show Lib.escRune T _ = [92, 34] by simp [Lib.escRune]))
            go_big_wp2_with (at_builtin; first | (refine Lib.wpList_append_byte rfl _ _ 27 rfl (w.heap.size + 1) 5 i0 Tryd.underlying27 hi hz0 hz1 hz2 _ _ _ rfl W1 _ _ (by exact hb) rfl (by first | omega | (simp only [Lib.size_two]; omega)) ?_; intro _ _ hb) | (refine Lib.wpList_append_text rfl _ _ 27 9 rfl (w.heap.size + 1) 5 i0 Tryd.underlying27 Tryd.underlying9 hi hz0 hz1 hz2 _ _ _ rfl W1 (by exact hb) _ rfl (by first | omega | (simp only [Lib.size_two]; omega)) ?_; intro _ _ hb))
            obtain ⟨k1, k2, k3, k4⟩ := q_close h0 hf hq.out hl HK.out hst.out
            go_roundw
            case rel =>
              refine ⟨_, _, f - 1, rfl, k1, ⟨W1, hW, hTm, ownBuf_cast hb ?_ ?_⟩, k2, k3⟩
              · simp [HL.out, Lib.size_two]; omega
              · simp [HL.out, Lib.intCells, Lib.strCells, Lib.size_two, Lib.lowerhex_at]
            case measure => exact k4
          · have hst := Lib.hid (Hst.out.trans (show Lib.escRune T _ = [92, 92] by simp [Lib.escRune]))
            go_big_wp2_with (at_builtin; first | (refine Lib.wpList_append_byte rfl _ _ 27 rfl (w.heap.size + 1) 5 i0 Tryd.underlying27 hi hz0 hz1 hz2 _ _ _ rfl W1 _ _ (by exact hb) rfl (by first | omega | (simp only [Lib.size_two]; omega)) ?_; intro _ _ hb) | (refine Lib.wpList_append_text rfl _ _ 27 9 rfl (w.heap.size + 1) 5 i0 Tryd.underlying27 Tryd.underlying9 hi hz0 hz1 hz2 _ _ _ rfl W1 (by exact hb) _ rfl (by first | omega | (simp only [Lib.size_two]; omega)) ?_; intro _ _ hb))
            obtain ⟨k1, k2, k3, k4⟩ := q_close h0 hf hq.out hl HK.out hst.out
            go_roundw
            case rel =>
              refine ⟨_, _, f - 1, rfl, k1, ⟨W1, hW, hTm, ownBuf_cast hb ?_ ?_⟩, k2, k3⟩
              · simp [HL.out, Lib.size_two]; omega
              · simp [HL.out, Lib.intCells, Lib.strCells, Lib.size_two, Lib.lowerhex_at]
            case measure => exact k4
        have a1 : ¬ ((C : Int) = 34 ∨ (C : Int) = 92) := by omega
        have a34 : ¬ (C : Int) = 34 := by omega
        have a92 : ¬ (C : Int) = 92 := by omega
        by_cases hp : Lib.isPrintR T (C : Int) = true
        · have hst := Lib.hid (Hst.out.trans (show Lib.escRune T (C : Int) = Lib.encodeRuneZ (C : Int) by simp only [Lib.escRune, if_neg a1, hp, if_true]))
          rw [hp] at cP
          obtain ⟨m, hm⟩ : ∃ m, m = (Lib.runeCells (C : Int)).length := ⟨_, rfl⟩
          have hm4 : m ≤ 4 := by rw [hm]; exact runeCells_le _
          have hm4' : (m : Int) ≤ 4 := by omega
          have hm0 : (0 : Int) ≤ (m : Int) := by omega
          have Hm := Lib.hid hm
          have cE := fun q1 => encodeRune_qb hW (hbq q1) hTm (C : Int) (by omega) (by omega) m hm
          clear hp hb0 hm
          go_big_wp2_with (first | (go_at_call 13; refine cP.mono ?_; rintro e w1 ⟨rfl, q1, rfl⟩) | (go_at_call 14; refine (cE _).mono ?_; rintro e w2 ⟨rfl, hW2, hTm2, hb2, hcl⟩) | (at_builtin; refine wpList_append_ownF _ rfl _ _ 27 rfl (w.heap.size + 1) 5 i0 (.int .u8 0) 1 1 Tryd.underlying27 hi hz0 hz1 hz2 rfl (by decide) _ _ _ rfl hb2.1 ⟨w.heap.size, 0, none⟩ m 4 (Lib.runeCells (C : Int)) rfl (by rw [← Hm.out]; omega) hcl (by intro u hu; simp [Lib.runeCells] at hu; obtain ⟨_, _, rfl⟩ := hu; rfl) (by unfold maxLen; omega) (by omega) hb2.2.2 ?_; intro v3 w3 hown3 hg3 _; have hb3 := hb2.grown hown3 hg3))
          obtain ⟨k1, k2, k3, k4⟩ := q_close h0 hf hq.out hl HK.out hst.out
          go_roundw
          case rel =>
            refine ⟨_, _, f - 1, rfl, k1, ⟨_, hW2, hTm2, ownBuf_cast hb3 ?_ ?_⟩, k2, k3⟩
            · rw [Hm.out]; simp [HL.out, Lib.runeCells]; omega
            · simp [HL.out, Lib.intCells, Lib.runeCells]
          case measure => exact k4
        have hp' : Lib.isPrintR T (C : Int) = false := by simpa using hp
        rw [hp'] at cP
        by_cases hn : C = 7 ∨ C = 8 ∨ C = 12 ∨ C = 10 ∨ C = 13 ∨ C = 9 ∨ C = 11
        · clear hp hp' hb0 a1 a34 a92 hQ
          rcases hn with rfl | rfl | rfl | rfl | rfl | rfl | rfl
          · have hst := Lib.hid (Hst.out.trans (show Lib.escRune T _ = [92, 97] by simp [Lib.escRune, Lib.isPrintR, Lib.isPrintLatin]))
            go_big_wp2_with (first | (go_at_call 13; refine cP.mono ?_; rintro e w1 ⟨rfl, q1, rfl⟩; have hb := hbq q1) | (at_builtin; first | (refine Lib.wpList_append_byte rfl _ _ 27 rfl (w.heap.size + 1) 5 i0 Tryd.underlying27 hi hz0 hz1 hz2 _ _ _ rfl W1 _ _ (by exact hb) rfl (by first | omega | (simp only [Lib.size_two]; omega)) ?_; intro _ _ hb) | (refine Lib.wpList_append_text rfl _ _ 27 9 rfl (w.heap.size + 1) 5 i0 Tryd.underlying27 Tryd.underlying9 hi hz0 hz1 hz2 _ _ _ rfl W1 (by exact hb) _ rfl (by first | omega | (simp only [Lib.size_two]; omega)) ?_; intro _ _ hb)))
            obtain ⟨k1, k2, k3, k4⟩ := q_close h0 hf hq.out hl HK.out hst.out
            go_roundw
            case rel =>
              refine ⟨_, _, f - 1, rfl, k1, ⟨W1, hW, hTm, ownBuf_cast hb ?_ ?_⟩, k2, k3⟩
              · simp [HL.out, Lib.size_two]; omega
              · simp [HL.out, Lib.intCells, Lib.strCells, Lib.size_two, Lib.lowerhex_at]
            case measure => exact k4
          · have hst := Lib.hid (Hst.out.trans (show Lib.escRune T _ = [92, 98] by simp [Lib.escRune, Lib.isPrintR, Lib.isPrintLatin]))
            go_big_wp2_with (first | (go_at_call 13; refine cP.mono ?_; rintro e w1 ⟨rfl, q1, rfl⟩; have hb := hbq q1) | (at_builtin; first | (refine Lib.wpList_append_byte rfl _ _ 27 rfl (w.heap.size + 1) 5 i0 Tryd.underlying27 hi hz0 hz1 hz2 _ _ _ rfl W1 _ _ (by exact hb) rfl (by first | omega | (simp only [Lib.size_two]; omega)) ?_; intro _ _ hb) | (refine Lib.wpList_append_text rfl _ _ 27 9 rfl (w.heap.size + 1) 5 i0 Tryd.underlying27 Tryd.underlying9 hi hz0 hz1 hz2 _ _ _ rfl W1 (by exact hb) _ rfl (by first | omega | (simp only [Lib.size_two]; omega)) ?_; intro _ _ hb)))
            obtain ⟨k1, k2, k3, k4⟩ := q_close h0 hf hq.out hl HK.out hst.out
            go_roundw
            case rel =>
              refine ⟨_, _, f - 1, rfl, k1, ⟨W1, hW, hTm, ownBuf_cast hb ?_ ?_⟩, k2, k3⟩
              · simp [HL.out, Lib.size_two]; omega
              · simp [HL.out, Lib.intCells, Lib.strCells, Lib.size_two, Lib.lowerhex_at]
            case measure => exact k4
          · have hst := Lib.hid (Hst.out.trans (show Lib.escRune T _ = [92, 102] by simp [Lib.escRune, Lib.isPrintR, Lib.isPrintLatin]))
            go_big_wp2_with (first | (go_at_call 13; refine cP.mono ?_; rintro e w1 ⟨rfl, q1, rfl⟩; have hb := hbq q1) | (at_builtin; first | (refine Lib.wpList_append_byte rfl _ _ 27 rfl (w.heap.size + 1) 5 i0 Tryd.underlying27 hi hz0 hz1 hz2 _ _ _ rfl W1 _ _ (by exact hb) rfl (by first | omega | (simp only [Lib.size_two]; omega)) ?_; intro _ _ hb) | (refine Lib.wpList_append_text rfl _ _ 27 9 rfl (w.heap.size + 1) 5 i0 Tryd.underlying27 Tryd.underlying9 hi hz0 hz1 hz2 _ _ _ rfl W1 (by exact hb) _ rfl (by first | omega | (simp only [Lib.size_two]; omega)) ?_; intro _ _ hb)))
            obtain ⟨k1, k2, k3, k4⟩ := q_close h0 hf hq.out hl HK.out hst.out
            go_roundw
            case rel =>
              refine ⟨_, _, f - 1, rfl, k1, ⟨W1, hW, hTm, ownBuf_cast hb ?_ ?_⟩, k2, k3⟩
              · simp [HL.out, Lib.size_two]; omega
              · simp [HL.out, Lib.intCells, Lib.strCells, Lib.size_two, Lib.lowerhex_at]
            case measure => exact k4
          · have hst := Lib.hid (Hst.out.trans (show Lib.escRune T _ = [92, 110] by simp [Lib.escRune, Lib.isPrintR, Lib.isPrintLatin]))
            go_big_wp2_with (first | (go_at_call 13; refine cP.mono ?_; rintro e w1 ⟨rfl, q1, rfl⟩; have hb := hbq q1) | (at_builtin; first | (refine Lib.wpList_append_byte rfl _ _ 27 rfl (w.heap.size + 1) 5 i0 Tryd.underlying27 hi hz0 hz1 hz2 _ _ _ rfl W1 _ _ (by exact hb) rfl (by first | omega | (simp only [Lib.size_two]; omega)) ?_; intro _ _ hb) | (refine Lib.wpList_append_text rfl _ _ 27 9 rfl (w.heap.size + 1) 5 i0 Tryd.underlying27 Tryd.underlying9 hi hz0 hz1 hz2 _ _ _ rfl W1 (by exact hb) _ rfl (by first | omega | (simp only [Lib.size_two]; omega)) ?_; intro _ _ hb)))
            obtain ⟨k1, k2, k3, k4⟩ := q_close h0 hf hq.out hl HK.out hst.out
            go_roundw
            case rel =>
              refine ⟨_, _, f - 1, rfl, k1, ⟨W1, hW, hTm, ownBuf_cast hb ?_ ?_⟩, k2, k3⟩
              · simp [HL.out, Lib.size_two]; omega
              · simp [HL.out, Lib.intCells, Lib.strCells, Lib.size_two, Lib.lowerhex_at]
            case measure => exact k4
          · have hst := Lib.hid (Hst.out.trans (show Lib.escRune T _ = [92, 114] by simp [Lib.escRune, Lib.isPrintR, Lib.isPrintLatin]))
            go_big_wp2_with (first | (go_at_call 13; refine cP.mono ?_; rintro e w1 ⟨rfl, q1, rfl⟩; have hb := hbq q1) | (at_builtin; first | (refine Lib.wpList_append_byte rfl _ _ 27 rfl (w.heap.size + 1) 5 i0 Tryd.underlying27 hi hz0 hz1 hz2 _ _ _ rfl W1 _ _ (by exact hb) rfl (by first | omega | (simp only [Lib.size_two]; omega)) ?_; intro _ _ hb) | (refine Lib.wpList_append_text rfl _ _ 27 9 rfl (w.heap.size + 1) 5 i0 Tryd.underlying27 Tryd.underlying9 hi hz0 hz1 hz2 _ _ _ rfl W1 (by exact hb) _ rfl (by first | omega | (simp only [Lib.size_two]; omega)) ?_; intro _ _ hb)))
            obtain ⟨k1, k2, k3, k4⟩ := q_close h0 hf hq.out hl HK.out hst.out
            go_roundw
            case rel =>
              refine ⟨_, _, f - 1, rfl, k1, ⟨W1, hW, hTm, ownBuf_cast hb ?_ ?_⟩, k2, k3⟩
              · simp [HL.out, Lib.size_two]; omega
              · simp [HL.out, Lib.intCells, Lib.strCells, Lib.size_two, Lib.lowerhex_at]
            case measure => exact k4
          · have hst := Lib.hid (Hst.out.trans (show Lib.escRune T _ = [92, 116] by simp [Lib.escRune, Lib.isPrintR, Lib.isPrintLatin]))
            go_big_wp2_with (first | (go_at_call 13; refine cP.mono ?_; rintro e w1 ⟨rfl, q1, rfl⟩; have hb := hbq q1) | (at_builtin; first | (refine Lib.wpList_append_byte rfl _ _ 27 rfl (w.heap.size + 1) 5 i0 Tryd.underlying27 hi hz0 hz1 hz2 _ _ _ rfl W1 _ _ (by exact hb) rfl (by first | omega | (simp only [Lib.size_two]; omega)) ?_; intro _ _ hb) | (refine Lib.wpList_append_text rfl _ _ 27 9 rfl (w.heap.size + 1) 5 i0 Tryd.underlying27 Tryd.underlying9 hi hz0 hz1 hz2 _ _ _ rfl W1 (by exact hb) _ rfl (by first | omega | (simp only [Lib.size_two]; omega)) ?_; intro _ _ hb)))
            obtain ⟨k1, k2, k3, k4⟩ := q_close h0 hf hq.out hl HK.out hst.out
            go_roundw
            case rel =>
              refine ⟨_, _, f - 1, rfl, k1, ⟨W1, hW, hTm, ownBuf_cast hb ?_ ?_⟩, k2, k3⟩
              · simp [HL.out, Lib.size_two]; omega
              · simp [HL.out, Lib.intCells, Lib.strCells, Lib.size_two, Lib.lowerhex_at]
            case measure => exact k4
          · have hst := Lib.hid (Hst.out.trans (show Lib.escRune T _ = [92, 118] by simp [Lib.escRune, Lib.isPrintR, Lib.isPrintLatin]))
            go_big_wp2_with (first | (go_at_call 13; refine cP.mono ?_; rintro e w1 ⟨rfl, q1, rfl⟩; have hb := hbq q1) | (at_builtin; first | (refine Lib.wpList_append_byte rfl _ _ 27 rfl (w.heap.size + 1) 5 i0 Tryd.underlying27 hi hz0 hz1 hz2 _ _ _ rfl W1 _ _ (by exact hb) rfl (by first | omega | (simp only [Lib.size_two]; omega)) ?_; intro _ _ hb) | (refine Lib.wpList_append_text rfl _ _ 27 9 rfl (w.heap.size + 1) 5 i0 Tryd.underlying27 Tryd.underlying9 hi hz0 hz1 hz2 _ _ _ rfl W1 (by exact hb) _ rfl (by first | omega | (simp only [Lib.size_two]; omega)) ?_; intro _ _ hb)))
            obtain ⟨k1, k2, k3, k4⟩ := q_close h0 hf hq.out hl HK.out hst.out
            go_roundw
            case rel =>
              refine ⟨_, _, f - 1, rfl, k1, ⟨W1, hW, hTm, ownBuf_cast hb ?_ ?_⟩, k2, k3⟩
              · simp [HL.out, Lib.size_two]; omega
              · simp [HL.out, Lib.intCells, Lib.strCells, Lib.size_two, Lib.lowerhex_at]
            case measure => exact k4
        have hx : (C : Int) < 32 ∨ (C : Int) = 127 := by
          have a : (C : Int) ≤ 255 := by omega
          simp only [Lib.isPrintR, if_pos a, Lib.isPrintLatin] at hp'
          simp at hp'; omega
        have b7 : ¬ (C : Int) = 7 := by omega
        have b8 : ¬ (C : Int) = 8 := by omega
        have b12 : ¬ (C : Int) = 12 := by omega
        have b10 : ¬ (C : Int) = 10 := by omega
        have b13 : ¬ (C : Int) = 13 := by omega
        have b9 : ¬ (C : Int) = 9 := by omega
        have b11 : ¬ (C : Int) = 11 := by omega
        have hst := Lib.hid (Hst.out.trans (show Lib.escRune T (C : Int) = [92, 120, Lib.hexDigit (C / 16), Lib.hexDigit (C % 16)] by
          simp only [Lib.escRune, if_neg a1, hp', if_neg b7, if_neg b8, if_neg b12, if_neg b10, if_neg b13, if_neg b9, if_neg b11, if_pos hx, Int.toNat_natCast]
          simp))
        clear hp hp' hb0 hn hQ a1
        rcases hx with hx | hx
        · go_big_wp2_with (first | (go_at_call 13; refine cP.mono ?_; rintro e w1 ⟨rfl, q1, rfl⟩; have hb := hbq q1) | (at_builtin; first | (refine Lib.wpList_append_byte rfl _ _ 27 rfl (w.heap.size + 1) 5 i0 Tryd.underlying27 hi hz0 hz1 hz2 _ _ _ rfl W1 _ _ (by exact hb) rfl (by first | omega | (simp only [Lib.size_two]; omega)) ?_; intro _ _ hb) | (refine Lib.wpList_append_text rfl _ _ 27 9 rfl (w.heap.size + 1) 5 i0 Tryd.underlying27 Tryd.underlying9 hi hz0 hz1 hz2 _ _ _ rfl W1 (by exact hb) _ rfl (by first | omega | (simp only [Lib.size_two]; omega)) ?_; intro _ _ hb)))
          obtain ⟨k1, k2, k3, k4⟩ := q_close h0 hf hq.out hl HK.out hst.out
          go_roundw
          case rel =>
            refine ⟨_, _, f - 1, rfl, k1, ⟨W1, hW, hTm, ownBuf_cast hb ?_ ?_⟩, k2, k3⟩
            · simp [HL.out, Lib.size_two]; omega
            · simp [HL.out, Lib.intCells, Lib.strCells, Lib.size_two, Lib.lowerhex_at]
          case measure => exact k4
        · have h127 : C = 127 := by omega
          clear hx hw8 hw32 hge hne b7 b8 b12 b10 b13 b9 b11 a34 a92
          subst h127
          go_big_wp2_with (first | (go_at_call 13; refine cP.mono ?_; rintro e w1 ⟨rfl, q1, rfl⟩; have hb := hbq q1) | (at_builtin; first | (refine Lib.wpList_append_byte rfl _ _ 27 rfl (w.heap.size + 1) 5 i0 Tryd.underlying27 hi hz0 hz1 hz2 _ _ _ rfl W1 _ _ (by exact hb) rfl (by first | omega | (simp only [Lib.size_two]; omega)) ?_; intro _ _ hb) | (refine Lib.wpList_append_text rfl _ _ 27 9 rfl (w.heap.size + 1) 5 i0 Tryd.underlying27 Tryd.underlying9 hi hz0 hz1 hz2 _ _ _ rfl W1 (by exact hb) _ rfl (by first | omega | (simp only [Lib.size_two]; omega)) ?_; intro _ _ hb)))
          obtain ⟨k1, k2, k3, k4⟩ := q_close h0 hf hq.out hl HK.out hst.out
          go_roundw
          case rel =>
            refine ⟨_, _, f - 1, rfl, k1, ⟨W1, hW, hTm, ownBuf_cast hb ?_ ?_⟩, k2, k3⟩
            · simp [HL.out, Lib.size_two]; omega
            · simp [HL.out, Lib.intCells, Lib.strCells, Lib.size_two, Lib.lowerhex_at]
          case measure => exact k4
      · obtain ⟨R, hR⟩ : ∃ R, R = (Utf8.decode rest 0).1 := ⟨_, rfl⟩
        obtain ⟨K, hK⟩ : ∃ K, K = (Utf8.decode rest 0).2 := ⟨_, rfl⟩
        have hhi := decode_high rest 0 h0 (by omega)
        have hone := high_one rest h0 (by omega)
        rw [← hR, ← hK] at hone
        have hK1 : 1 ≤ K := by rw [hK]; exact Lib.width_pos _ _
        have hK2 : K ≤ rest.size := by rw [hK]; exact Lib.width_le _ h0
        have hK2' : (K : Int) ≤ (rest.size : Int) := by omega
        have hR128 : 128 ≤ R := by rw [hR]; exact hhi.1
        have hRv : Lib.validRune (R : Int) = true := by rw [hR]; exact Lib.rune_valid _
        have hRv2 : R ≤ 1114111 := by have := hRv; simp [Lib.validRune] at this; omega
        have cD : Calls Tryd.prog 9 #[.string rest] wr fun e w' => e = .returned (.tuple #[.int .i32 R, .int .i64 K]) ∧ Below wr.heap.size wr w' := by
          have e : Lib.decodeGo rest = (R, K) := by
            have hne : ¬ rest.size = 0 := by omega
            rw [hR, hK]; simp [Lib.decodeGo, hne]
          have := decodeRune_q rest wr (Utf8Tabs_below HU.out hBel.out)
          rwa [e] at this
        have HR : Hid (R = (Utf8.decode rest 0).1) := hR
        have HK : Hid (K = (Utf8.decode rest 0).2) := hK
        have hC32 : IntKind.i32.wrap ((rest[0]'h0).toNat : Int) = ((rest[0]'h0).toNat : Int) := by
          have := UInt8.toNat_lt (rest[0]'h0)
          unfold IntKind.wrap; simp [IntKind.bits, IntKind.signed]; omega
        have hge : (128 : Int) ≤ ((rest[0]'h0).toNat : Int) := by omega
        clear hR hK hhi
        by_cases hbad : K = 1
        · obtain rfl := hbad
          obtain rfl := hone rfl
          have hx255 := UInt8.toNat_lt (rest[0]'h0)
          have hx16 : 0 ≤ (((rest[0]'h0).toNat : Nat) : Int) / 16 ∧ (((rest[0]'h0).toNat : Nat) : Int) / 16 < 16 := by omega
          have hst := Lib.hid (Lib.quoteStep_bad T rest h0 HK.out HR.out)
          clear hone hRv hRv2 hR128 hK1 hK2 hK2'
          obtain ⟨W1, hW, hTm, hb0⟩ := hqb.out
          have hbd := fun w' => Go.Proofs.buf_below (w' := w') hb0
          clear hb0
          go_big_wp2_with (first | (go_at_call 9; refine cD.mono ?_; rintro e w1 ⟨rfl, hbl⟩; have hb := hbd _ hbl; clear hbl) | (at_builtin; first | (refine Lib.wpList_append_byte rfl _ _ 27 rfl (w.heap.size + 1) 5 i0 Tryd.underlying27 hi hz0 hz1 hz2 _ _ _ rfl W1 _ _ (by exact hb) rfl (by first | omega | (simp only [Lib.size_two]; omega)) ?_; intro _ _ hb) | (refine Lib.wpList_append_text rfl _ _ 27 9 rfl (w.heap.size + 1) 5 i0 Tryd.underlying27 Tryd.underlying9 hi hz0 hz1 hz2 _ _ _ rfl W1 (by exact hb) _ rfl (by first | omega | (simp only [Lib.size_two]; omega)) ?_; intro _ _ hb)))
          obtain ⟨k1, k2, k3, k4⟩ := q_close h0 hf hq.out hl HK.out hst.out
          go_roundw
          case rel =>
            refine ⟨_, _, f - 1, rfl, k1, ⟨W1, hW, hTm, ownBuf_cast hb ?_ ?_⟩, k2, k3⟩
            · simp [HL.out, Lib.size_two]; omega
            · simp [HL.out, Lib.intCells, Lib.strCells, Lib.size_two, Lib.lowerhex_at]
          case measure => exact k4
        obtain ⟨r, hr⟩ : ∃ r : Int, r = (R : Int) := ⟨_, rfl⟩
        rw [← hr] at cD
        have Hst := Lib.hid (show Lib.quoteStep T rest = Lib.escRune T r by
          rw [hr, HR.out]; exact Lib.quoteStep_good T rest (by rw [← HK.out, ← HR.out]; omega))
        have hr0 : 0 ≤ r := by omega
        have hKn : ¬ (K : Int) = 1 := by omega
        have a34 : ¬ r = 34 := by omega
        have a92 : ¬ r = 92 := by omega
        have a1 : ¬ (r = 34 ∨ r = 92) := by omega
        obtain ⟨W1, hW, hTm, hb0⟩ := hqb.out
        have Hbd := Lib.hid (fun w' hbl => Go.Proofs.buf_below (w' := w') hb0 hbl)
        have hTd := fun w' (hbl : Below wr.heap.size wr w') => Go.Proofs.printTabs_below HT.out (hqb.out.buf_below hbl).below
        have cP := fun w' hbl => isPrint_q T r w' (by omega) (by omega) (hTd w' hbl)
        clear hb0 hTd hone hA
        by_cases hp : Lib.isPrintR T r = true
        · have hst := Lib.hid (Hst.out.trans (show Lib.escRune T r = Lib.encodeRuneZ r by simp only [Lib.escRune, if_neg a1, hp, if_true]))
          rw [hp] at cP
          obtain ⟨m, hm⟩ : ∃ m, m = (Lib.runeCells r).length := ⟨_, rfl⟩
          have hm4 : m ≤ 4 := by rw [hm]; exact runeCells_le _
          have hm4' : (m : Int) ≤ 4 := by omega
          have hm0 : (0 : Int) ≤ (m : Int) := by omega
          have Hm := Lib.hid hm
          have HcE := Lib.hid (fun w' hbl q1 => encodeRune_qb hW ((Hbd.out w' hbl).drewN q1) hTm r (by omega) (by omega) m hm)
          have HcP := Lib.hid cP
          clear hp hm cP hRv hRv2 hR128 a1 hbad hK1 hK2 hr0
          have Hr := Lib.hid hr
          clear hr
          go_big_wp2_with (first | (go_at_call 9; refine cD.mono ?_; rintro e wd ⟨rfl, hbl⟩; have Hbl := Lib.hid hbl; clear hbl) | (first | (go_at_call 13; refine (HcP.out _ Hbl.out).mono ?_; rintro e w1 ⟨rfl, q1, rfl⟩) | (go_at_call 14; refine (HcE.out _ Hbl.out _).mono ?_; rintro e w2 ⟨rfl, hW2, hTm2, hb2, hcl⟩) | (at_builtin; refine wpList_append_ownF _ rfl _ _ 27 rfl (w.heap.size + 1) 5 i0 (.int .u8 0) 1 1 Tryd.underlying27 hi hz0 hz1 hz2 rfl (by decide) _ _ _ rfl hb2.1 ⟨w.heap.size, 0, none⟩ m 4 (Lib.runeCells r) rfl (by rw [← Hm.out]; omega) hcl (by intro u hu; simp [Lib.runeCells] at hu; obtain ⟨_, _, rfl⟩ := hu; rfl) (by unfold maxLen; omega) (by omega) hb2.2.2 ?_; intro v3 w3 hown3 hg3 _; have hb3 := hb2.grown hown3 hg3)))
          obtain ⟨k1, k2, k3, k4⟩ := q_close h0 hf hq.out hl HK.out hst.out
          go_roundw
          case rel =>
            refine ⟨_, _, f - 1, rfl, k1, ⟨_, hW2, hTm2, ownBuf_cast hb3 ?_ ?_⟩, k2, k3⟩
            · rw [Hm.out]; simp [HL.out, Lib.runeCells]; omega
            · simp [HL.out, Lib.intCells, Lib.runeCells]
          case measure => exact k4
        have hp' : Lib.isPrintR T r = false := by simpa using hp
        rw [hp'] at cP
        have HcP := Lib.hid cP
        obtain ⟨k, hk⟩ : ∃ k, k = R := ⟨_, rfl⟩
        have hk31 : R < 2147483648 := by omega
        have b7 : ¬ r = 7 := by omega
        have b8 : ¬ r = 8 := by omega
        have b12 : ¬ r = 12 := by omega
        have b10 : ¬ r = 10 := by omega
        have b13 : ¬ r = 13 := by omega
        have b9 : ¬ r = 9 := by omega
        have b11 : ¬ r = 11 := by omega
        have hRv' : Lib.validRune r = true := by rw [hr]; exact hRv
        have hrN : r.toNat = R := by omega
        have bx1 : ¬ r < 32 := by omega
        have bx2 : ¬ r = 127 := by omega
        have bx : ¬ (r < 32 ∨ r = 127) := by omega
        have bmax : ¬ (1114111 : Int) < r := by omega
        clear hk k
        by_cases hlt : r < 65536
        · have hst := Lib.hid (Hst.out.trans (show Lib.escRune T r = 92 :: 117 :: Lib.hexDigits R 4 by
            simp only [Lib.escRune, if_neg a1, hp', if_neg b7, if_neg b8, if_neg b12, if_neg b10, if_neg b13, if_neg b9, if_neg b11, if_neg bx, if_pos hlt, hRv', hrN]
            simp))
          obtain ⟨d0, hd0⟩ : ∃ d, d = R / 4096 % 16 := ⟨_, rfl⟩
          have hD0 : bits .and .i32 (r / 4096) 15 = (d0 : Int) := by have e := Lib.and15_shift r R hr hk31 4096; rw [hd0]; simpa using e
          have hL0 : d0 < 16 := by omega
          have hL0' : (d0 : Int) < 16 := by omega
          have HD0 := Lib.hid hd0
          clear hd0
          obtain ⟨d1, hd1⟩ : ∃ d, d = R / 256 % 16 := ⟨_, rfl⟩
          have hD1 : bits .and .i32 (r / 256) 15 = (d1 : Int) := by have e := Lib.and15_shift r R hr hk31 256; rw [hd1]; simpa using e
          have hL1 : d1 < 16 := by omega
          have hL1' : (d1 : Int) < 16 := by omega
          have HD1 := Lib.hid hd1
          clear hd1
          obtain ⟨d2, hd2⟩ : ∃ d, d = R / 16 % 16 := ⟨_, rfl⟩
          have hD2 : bits .and .i32 (r / 16) 15 = (d2 : Int) := by have e := Lib.and15_shift r R hr hk31 16; rw [hd2]; simpa using e
          have hL2 : d2 < 16 := by omega
          have hL2' : (d2 : Int) < 16 := by omega
          have HD2 := Lib.hid hd2
          clear hd2
          obtain ⟨d3, hd3⟩ : ∃ d, d = R / 1 % 16 := ⟨_, rfl⟩
          have hD3 : bits .and .i32 (r) 15 = (d3 : Int) := by have e := Lib.and15_shift r R hr hk31 1; rw [hd3]; simpa using e
          have hL3 : d3 < 16 := by omega
          have hL3' : (d3 : Int) < 16 := by omega
          have HD3 := Lib.hid hd3
          clear hd3
          clear hp hp' cP hRv hRv2 hR128 a1 hbad hK1 hK2 bx hk31 hRv' hrN
          have Hr := Lib.hid hr
          clear hr
          go_big_wp2_with (first | (go_at_call 9; refine cD.mono ?_; rintro e wd ⟨rfl, hbl⟩; have Hbl := Lib.hid hbl; clear hbl) | (go_at_call 13; refine (HcP.out _ Hbl.out).mono ?_; rintro e w1 ⟨rfl, q1, rfl⟩; have hb := (Hbd.out _ Hbl.out).drewN q1) | (at_builtin; first | (refine Lib.wpList_append_byte rfl _ _ 27 rfl (w.heap.size + 1) 5 i0 Tryd.underlying27 hi hz0 hz1 hz2 _ _ _ rfl W1 _ _ (by exact hb) rfl (by first | omega | (simp only [Lib.size_two]; omega)) ?_; intro _ _ hb) | (refine Lib.wpList_append_text rfl _ _ 27 9 rfl (w.heap.size + 1) 5 i0 Tryd.underlying27 Tryd.underlying9 hi hz0 hz1 hz2 _ _ _ rfl W1 (by exact hb) _ rfl (by first | omega | (simp only [Lib.size_two]; omega)) ?_; intro _ _ hb)))
          refine wp_loop_rounds 5 ?_
          rw [rounds_succ]
          go_big_wp2_with (at_builtin; first | (refine Lib.wpList_append_byte rfl _ _ 27 rfl (w.heap.size + 1) 5 i0 Tryd.underlying27 hi hz0 hz1 hz2 _ _ _ rfl W1 _ _ (by exact hb) rfl (by first | omega | (simp only [Lib.size_two]; omega)) ?_; intro _ _ hb) | (refine Lib.wpList_append_text rfl _ _ 27 9 rfl (w.heap.size + 1) 5 i0 Tryd.underlying27 Tryd.underlying9 hi hz0 hz1 hz2 _ _ _ rfl W1 (by exact hb) _ rfl (by first | omega | (simp only [Lib.size_two]; omega)) ?_; intro _ _ hb))
          rw [rounds_succ]
          go_big_wp2_with (at_builtin; first | (refine Lib.wpList_append_byte rfl _ _ 27 rfl (w.heap.size + 1) 5 i0 Tryd.underlying27 hi hz0 hz1 hz2 _ _ _ rfl W1 _ _ (by exact hb) rfl (by first | omega | (simp only [Lib.size_two]; omega)) ?_; intro _ _ hb) | (refine Lib.wpList_append_text rfl _ _ 27 9 rfl (w.heap.size + 1) 5 i0 Tryd.underlying27 Tryd.underlying9 hi hz0 hz1 hz2 _ _ _ rfl W1 (by exact hb) _ rfl (by first | omega | (simp only [Lib.size_two]; omega)) ?_; intro _ _ hb))
          rw [rounds_succ]
          go_big_wp2_with (at_builtin; first | (refine Lib.wpList_append_byte rfl _ _ 27 rfl (w.heap.size + 1) 5 i0 Tryd.underlying27 hi hz0 hz1 hz2 _ _ _ rfl W1 _ _ (by exact hb) rfl (by first | omega | (simp only [Lib.size_two]; omega)) ?_; intro _ _ hb) | (refine Lib.wpList_append_text rfl _ _ 27 9 rfl (w.heap.size + 1) 5 i0 Tryd.underlying27 Tryd.underlying9 hi hz0 hz1 hz2 _ _ _ rfl W1 (by exact hb) _ rfl (by first | omega | (simp only [Lib.size_two]; omega)) ?_; intro _ _ hb))
          rw [rounds_succ]
          go_big_wp2_with (at_builtin; first | (refine Lib.wpList_append_byte rfl _ _ 27 rfl (w.heap.size + 1) 5 i0 Tryd.underlying27 hi hz0 hz1 hz2 _ _ _ rfl W1 _ _ (by exact hb) rfl (by first | omega | (simp only [Lib.size_two]; omega)) ?_; intro _ _ hb) | (refine Lib.wpList_append_text rfl _ _ 27 9 rfl (w.heap.size + 1) 5 i0 Tryd.underlying27 Tryd.underlying9 hi hz0 hz1 hz2 _ _ _ rfl W1 (by exact hb) _ rfl (by first | omega | (simp only [Lib.size_two]; omega)) ?_; intro _ _ hb))
          rw [rounds_succ]
          go_big_wp2_with (at_builtin; first | (refine Lib.wpList_append_byte rfl _ _ 27 rfl (w.heap.size + 1) 5 i0 Tryd.underlying27 hi hz0 hz1 hz2 _ _ _ rfl W1 _ _ (by exact hb) rfl (by first | omega | (simp only [Lib.size_two]; omega)) ?_; intro _ _ hb) | (refine Lib.wpList_append_text rfl _ _ 27 9 rfl (w.heap.size + 1) 5 i0 Tryd.underlying27 Tryd.underlying9 hi hz0 hz1 hz2 _ _ _ rfl W1 (by exact hb) _ rfl (by first | omega | (simp only [Lib.size_two]; omega)) ?_; intro _ _ hb))
          obtain ⟨k1, k2, k3, k4⟩ := q_close h0 hf hq.out hl HK.out hst.out
          go_roundw
          case rel =>
            refine ⟨_, _, f - 1, rfl, k1, ⟨W1, hW, hTm, ownBuf_cast hb ?_ ?_⟩, k2, k3⟩
            · simp [HL.out, Lib.size_two, Lib.hexDigits, HD0.out, HD1.out, HD2.out, HD3.out]; omega
            · simp [HL.out, Lib.intCells, Lib.strCells, Lib.size_two, Lib.lowerhex_at, Lib.hexDigits, HD0.out, HD1.out, HD2.out, HD3.out]
          case measure => exact k4
        · have hst := Lib.hid (Hst.out.trans (show Lib.escRune T r = 92 :: 85 :: Lib.hexDigits R 8 by
            simp only [Lib.escRune, if_neg a1, hp', if_neg b7, if_neg b8, if_neg b12, if_neg b10, if_neg b13, if_neg b9, if_neg b11, if_neg bx, if_neg hlt, hRv', hrN]
            simp))
          obtain ⟨d0, hd0⟩ : ∃ d, d = R / 268435456 % 16 := ⟨_, rfl⟩
          have hD0 : bits .and .i32 (r / 268435456) 15 = (d0 : Int) := by have e := Lib.and15_shift r R hr hk31 268435456; rw [hd0]; simpa using e
          have hL0 : d0 < 16 := by omega
          have hL0' : (d0 : Int) < 16 := by omega
          have HD0 := Lib.hid hd0
          clear hd0
          obtain ⟨d1, hd1⟩ : ∃ d, d = R / 16777216 % 16 := ⟨_, rfl⟩
          have hD1 : bits .and .i32 (r / 16777216) 15 = (d1 : Int) := by have e := Lib.and15_shift r R hr hk31 16777216; rw [hd1]; simpa using e
          have hL1 : d1 < 16 := by omega
          have hL1' : (d1 : Int) < 16 := by omega
          have HD1 := Lib.hid hd1
          clear hd1
          obtain ⟨d2, hd2⟩ : ∃ d, d = R / 1048576 % 16 := ⟨_, rfl⟩
          have hD2 : bits .and .i32 (r / 1048576) 15 = (d2 : Int) := by have e := Lib.and15_shift r R hr hk31 1048576; rw [hd2]; simpa using e
          have hL2 : d2 < 16 := by omega
          have hL2' : (d2 : Int) < 16 := by omega
          have HD2 := Lib.hid hd2
          clear hd2
          obtain ⟨d3, hd3⟩ : ∃ d, d = R / 65536 % 16 := ⟨_, rfl⟩
          have hD3 : bits .and .i32 (r / 65536) 15 = (d3 : Int) := by have e := Lib.and15_shift r R hr hk31 65536; rw [hd3]; simpa using e
          have hL3 : d3 < 16 := by omega
          have hL3' : (d3 : Int) < 16 := by omega
          have HD3 := Lib.hid hd3
          clear hd3
          obtain ⟨d4, hd4⟩ : ∃ d, d = R / 4096 % 16 := ⟨_, rfl⟩
          have hD4 : bits .and .i32 (r / 4096) 15 = (d4 : Int) := by have e := Lib.and15_shift r R hr hk31 4096; rw [hd4]; simpa using e
          have hL4 : d4 < 16 := by omega
          have hL4' : (d4 : Int) < 16 := by omega
          have HD4 := Lib.hid hd4
          clear hd4
          obtain ⟨d5, hd5⟩ : ∃ d, d = R / 256 % 16 := ⟨_, rfl⟩
          have hD5 : bits .and .i32 (r / 256) 15 = (d5 : Int) := by have e := Lib.and15_shift r R hr hk31 256; rw [hd5]; simpa using e
          have hL5 : d5 < 16 := by omega
          have hL5' : (d5 : Int) < 16 := by omega
          have HD5 := Lib.hid hd5
          clear hd5
          obtain ⟨d6, hd6⟩ : ∃ d, d = R / 16 % 16 := ⟨_, rfl⟩
          have hD6 : bits .and .i32 (r / 16) 15 = (d6 : Int) := by have e := Lib.and15_shift r R hr hk31 16; rw [hd6]; simpa using e
          have hL6 : d6 < 16 := by omega
          have hL6' : (d6 : Int) < 16 := by omega
          have HD6 := Lib.hid hd6
          clear hd6
          obtain ⟨d7, hd7⟩ : ∃ d, d = R / 1 % 16 := ⟨_, rfl⟩
          have hD7 : bits .and .i32 (r) 15 = (d7 : Int) := by have e := Lib.and15_shift r R hr hk31 1; rw [hd7]; simpa using e
          have hL7 : d7 < 16 := by omega
          have hL7' : (d7 : Int) < 16 := by omega
          have HD7 := Lib.hid hd7
          clear hd7
          clear hp hp' cP hRv hRv2 hR128 a1 hbad hK1 hK2 bx hk31 hRv' hrN
          have Hr := Lib.hid hr
          clear hr
          go_big_wp2_with (first | (go_at_call 9; refine cD.mono ?_; rintro e wd ⟨rfl, hbl⟩; have Hbl := Lib.hid hbl; clear hbl) | (go_at_call 13; refine (HcP.out _ Hbl.out).mono ?_; rintro e w1 ⟨rfl, q1, rfl⟩; have hb := (Hbd.out _ Hbl.out).drewN q1) | (at_builtin; first | (refine Lib.wpList_append_byte rfl _ _ 27 rfl (w.heap.size + 1) 5 i0 Tryd.underlying27 hi hz0 hz1 hz2 _ _ _ rfl W1 _ _ (by exact hb) rfl (by first | omega | (simp only [Lib.size_two]; omega)) ?_; intro _ _ hb) | (refine Lib.wpList_append_text rfl _ _ 27 9 rfl (w.heap.size + 1) 5 i0 Tryd.underlying27 Tryd.underlying9 hi hz0 hz1 hz2 _ _ _ rfl W1 (by exact hb) _ rfl (by first | omega | (simp only [Lib.size_two]; omega)) ?_; intro _ _ hb)))
          refine wp_loop_rounds 9 ?_
          rw [rounds_succ]
          go_big_wp2_with (at_builtin; first | (refine Lib.wpList_append_byte rfl _ _ 27 rfl (w.heap.size + 1) 5 i0 Tryd.underlying27 hi hz0 hz1 hz2 _ _ _ rfl W1 _ _ (by exact hb) rfl (by first | omega | (simp only [Lib.size_two]; omega)) ?_; intro _ _ hb) | (refine Lib.wpList_append_text rfl _ _ 27 9 rfl (w.heap.size + 1) 5 i0 Tryd.underlying27 Tryd.underlying9 hi hz0 hz1 hz2 _ _ _ rfl W1 (by exact hb) _ rfl (by first | omega | (simp only [Lib.size_two]; omega)) ?_; intro _ _ hb))
          rw [rounds_succ]
          go_big_wp2_with (at_builtin; first | (refine Lib.wpList_append_byte rfl _ _ 27 rfl (w.heap.size + 1) 5 i0 Tryd.underlying27 hi hz0 hz1 hz2 _ _ _ rfl W1 _ _ (by exact hb) rfl (by first | omega | (simp only [Lib.size_two]; omega)) ?_; intro _ _ hb) | (refine Lib.wpList_append_text rfl _ _ 27 9 rfl (w.heap.size + 1) 5 i0 Tryd.underlying27 Tryd.underlying9 hi hz0 hz1 hz2 _ _ _ rfl W1 (by exact hb) _ rfl (by first | omega | (simp only [Lib.size_two]; omega)) ?_; intro _ _ hb))
          rw [rounds_succ]
          go_big_wp2_with (at_builtin; first | (refine Lib.wpList_append_byte rfl _ _ 27 rfl (w.heap.size + 1) 5 i0 Tryd.underlying27 hi hz0 hz1 hz2 _ _ _ rfl W1 _ _ (by exact hb) rfl (by first | omega | (simp only [Lib.size_two]; omega)) ?_; intro _ _ hb) | (refine Lib.wpList_append_text rfl _ _ 27 9 rfl (w.heap.size + 1) 5 i0 Tryd.underlying27 Tryd.underlying9 hi hz0 hz1 hz2 _ _ _ rfl W1 (by exact hb) _ rfl (by first | omega | (simp only [Lib.size_two]; omega)) ?_; intro _ _ hb))
          rw [rounds_succ]
          go_big_wp2_with (at_builtin; first | (refine Lib.wpList_append_byte rfl _ _ 27 rfl (w.heap.size + 1) 5 i0 Tryd.underlying27 hi hz0 hz1 hz2 _ _ _ rfl W1 _ _ (by exact hb) rfl (by first | omega | (simp only [Lib.size_two]; omega)) ?_; intro _ _ hb) | (refine Lib.wpList_append_text rfl _ _ 27 9 rfl (w.heap.size + 1) 5 i0 Tryd.underlying27 Tryd.underlying9 hi hz0 hz1 hz2 _ _ _ rfl W1 (by exact hb) _ rfl (by first | omega | (simp only [Lib.size_two]; omega)) ?_; intro _ _ hb))
          rw [rounds_succ]
          go_big_wp2_with (at_builtin; first | (refine Lib.wpList_append_byte rfl _ _ 27 rfl (w.heap.size + 1) 5 i0 Tryd.underlying27 hi hz0 hz1 hz2 _ _ _ rfl W1 _ _ (by exact hb) rfl (by first | omega | (simp only [Lib.size_two]; omega)) ?_; intro _ _ hb) | (refine Lib.wpList_append_text rfl _ _ 27 9 rfl (w.heap.size + 1) 5 i0 Tryd.underlying27 Tryd.underlying9 hi hz0 hz1 hz2 _ _ _ rfl W1 (by exact hb) _ rfl (by first | omega | (simp only [Lib.size_two]; omega)) ?_; intro _ _ hb))
          rw [rounds_succ]
          go_big_wp2_with (at_builtin; first | (refine Lib.wpList_append_byte rfl _ _ 27 rfl (w.heap.size + 1) 5 i0 Tryd.underlying27 hi hz0 hz1 hz2 _ _ _ rfl W1 _ _ (by exact hb) rfl (by first | omega | (simp only [Lib.size_two]; omega)) ?_; intro _ _ hb) | (refine Lib.wpList_append_text rfl _ _ 27 9 rfl (w.heap.size + 1) 5 i0 Tryd.underlying27 Tryd.underlying9 hi hz0 hz1 hz2 _ _ _ rfl W1 (by exact hb) _ rfl (by first | omega | (simp only [Lib.size_two]; omega)) ?_; intro _ _ hb))
          rw [rounds_succ]
          go_big_wp2_with (at_builtin; first | (refine Lib.wpList_append_byte rfl _ _ 27 rfl (w.heap.size + 1) 5 i0 Tryd.underlying27 hi hz0 hz1 hz2 _ _ _ rfl W1 _ _ (by exact hb) rfl (by first | omega | (simp only [Lib.size_two]; omega)) ?_; intro _ _ hb) | (refine Lib.wpList_append_text rfl _ _ 27 9 rfl (w.heap.size + 1) 5 i0 Tryd.underlying27 Tryd.underlying9 hi hz0 hz1 hz2 _ _ _ rfl W1 (by exact hb) _ rfl (by first | omega | (simp only [Lib.size_two]; omega)) ?_; intro _ _ hb))
          rw [rounds_succ]
          go_big_wp2_with (at_builtin; first | (refine Lib.wpList_append_byte rfl _ _ 27 rfl (w.heap.size + 1) 5 i0 Tryd.underlying27 hi hz0 hz1 hz2 _ _ _ rfl W1 _ _ (by exact hb) rfl (by first | omega | (simp only [Lib.size_two]; omega)) ?_; intro _ _ hb) | (refine Lib.wpList_append_text rfl _ _ 27 9 rfl (w.heap.size + 1) 5 i0 Tryd.underlying27 Tryd.underlying9 hi hz0 hz1 hz2 _ _ _ rfl W1 (by exact hb) _ rfl (by first | omega | (simp only [Lib.size_two]; omega)) ?_; intro _ _ hb))
          rw [rounds_succ]
          go_big_wp2_with (at_builtin; first | (refine Lib.wpList_append_byte rfl _ _ 27 rfl (w.heap.size + 1) 5 i0 Tryd.underlying27 hi hz0 hz1 hz2 _ _ _ rfl W1 _ _ (by exact hb) rfl (by first | omega | (simp only [Lib.size_two]; omega)) ?_; intro _ _ hb) | (refine Lib.wpList_append_text rfl _ _ 27 9 rfl (w.heap.size + 1) 5 i0 Tryd.underlying27 Tryd.underlying9 hi hz0 hz1 hz2 _ _ _ rfl W1 (by exact hb) _ rfl (by first | omega | (simp only [Lib.size_two]; omega)) ?_; intro _ _ hb))
          obtain ⟨k1, k2, k3, k4⟩ := q_close h0 hf hq.out hl HK.out hst.out
          go_roundw
          case rel =>
            refine ⟨_, _, f - 1, rfl, k1, ⟨W1, hW, hTm, ownBuf_cast hb ?_ ?_⟩, k2, k3⟩
            · simp [HL.out, Lib.size_two, Lib.hexDigits, HD0.out, HD1.out, HD2.out, HD3.out, HD4.out, HD5.out, HD6.out, HD7.out]; omega
            · simp [HL.out, Lib.intCells, Lib.strCells, Lib.size_two, Lib.lowerhex_at, Lib.hexDigits, HD0.out, HD1.out, HD2.out, HD3.out, HD4.out, HD5.out, HD6.out, HD7.out]
          case measure => exact k4
    · have h0' : ¬ (0 : Int) < (rest.size : Int) := by omega
      obtain ⟨W1, hW, hTm, hb⟩ := hqb.out
      go_big_wp2_with (at_builtin; first | (refine Lib.wpList_append_byte rfl _ _ 27 rfl (w.heap.size + 1) 5 i0 Tryd.underlying27 hi hz0 hz1 hz2 _ _ _ rfl W1 _ _ (by exact hb) rfl (by first | omega | (simp only [Lib.size_two]; omega)) ?_; intro _ _ hb) | (refine Lib.wpList_append_text rfl _ _ 27 9 rfl (w.heap.size + 1) 5 i0 Tryd.underlying27 Tryd.underlying9 hi hz0 hz1 hz2 _ _ _ rfl W1 (by exact hb) _ rfl (by first | omega | (simp only [Lib.size_two]; omega)) ?_; intro _ _ hb))
      obtain ⟨g, cap, rfl, hcells⟩ := buf_cells (l := L ++ [34]) (by simpa [Lib.intCells] using hb) (by simp)
      have hcv := run_convert_bytes_arg (P := Tryd.prog) _ 27 5 Tryd.underlying27 Tryd.underlying5 g 0 _ cap (L ++ [34]) rfl hcells 9 Tryd.underlying9
      rw [hcv]
      go_wp2
      go_ret
      have hqe : Lib.quoteFrom T s.size s = acc := by rw [← hq.out, Lib.quoteFrom_end T f rest h0]; simp
      refine ⟨?_, (hW.trans (hb.2.1.mono (Nat.le_succ _)))⟩
      rw [HZ.out, HL.out, Hpre.out, Lib.quoteZ, hqe]
      simp [List.append_assoc]

end Go.Proofs.YtoghnefgflkpdaaDoor
