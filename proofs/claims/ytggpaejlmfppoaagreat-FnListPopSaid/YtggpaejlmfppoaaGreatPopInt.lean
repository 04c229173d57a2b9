/- The number of an integer of the package as an int64, whatever its size: SetInt64, the bounds, bigintToInt64, (starlark.Int).Int64. -/
import Derived.Test.YtggpaejlmfppoaaGreatCel
import Derived.Test.YtggpaejlmfppoaaGreatCmp4
import Derived.Test.YtggpaejlmfppoaaGreatI64
import Derived.Test.YtggpaejlmfppoaaGreatMNew
import Derived.Test.YtggpaejlmfppoaaGreatWhole
import Derived.WalkSpells
namespace Go.Proofs.YtggpaejlmfppoaaGreat
open Go.RowKit Dig
set_option linter.unusedVariables false
set_option linter.unusedSimpArgs false
set_option maxRecDepth 100000

theorem up_below2' {g : Nat} {w W W' : World} (h : Below w.heap.size w W) (hg : w.heap.size ≤ g) (hu : Up (some g) W W') : Below w.heap.size w W' := h.trans (hu.below h.size (fun k hk => by injection hk with hk; omega))
theorem setWord1_any (m : Nat) (w : World) (h0 : m ≠ 0) (hm : m < 18446744073709551616) : Calls Tryz.prog 126 #[.slice none 0 0, .int .u64 (m : Int)] w fun e w' => ∃ (c : Nat) (L : List Value), 1 ≤ c ∧ L.length = c ∧ L.getD 0 undef = .int .u64 (m : Int) ∧ e = .returned (.slice (some ⟨w.heap.size, 0, none⟩) 1 c) ∧ w' = w.alloc (.cells L.toArray 189) := by
  have C := Lib.hid (make_any 1 w (by omega) (by omega))
  have hne : ((m : Int) == 0) = false := by simp; omega
  unfold MakePost at C
  clear h0 hm
  go_enter Tryz.func126, Tryz.ntmps126
  go_wp2_with fail
  refine C.out.mono ?_
  rintro e w1 ⟨c, hc1, hc2, rfl, rfl⟩
  have hk := Blk.new w 189 (zs (.int .u64 0) c)
  have c0 := hk.cell 0 (by rw [zs_length]; omega)
  have f0 := hk.free 0
  have l0 := hk.lt
  generalize (zs (Value.int IntKind.u64 0) c).getD 0 undef = cv at *
  clear hk C
  generalize har : (zs (Value.int IntKind.u64 0) c).toArray = ar at *
  have HA := Lib.hid har.symm
  clear har
  go_wp2_with fail
  go_ret
  refine ⟨c, (zs (Value.int IntKind.u64 0) c).set 0 (.int .u64 (m : Int)), hc1, by simp [zs], ?_, rfl, by rw [HA.out]; simp⟩
  obtain ⟨d, rfl⟩ : ∃ d, c = d + 1 := ⟨c - 1, by omega⟩
  simp [zs, List.replicate_succ]
theorem setUint1_any (m : Nat) (w : World) (h0 : m ≠ 0) (hm : m < 18446744073709551616) : Calls Tryz.prog 125 #[.slice none 0 0, .int .u64 (m : Int)] w fun e w' => ∃ (c : Nat) (L : List Value), 1 ≤ c ∧ L.length = c ∧ L.getD 0 undef = .int .u64 (m : Int) ∧ e = .returned (.slice (some ⟨w.heap.size, 0, none⟩) 1 c) ∧ w' = w.alloc (.cells L.toArray 189) := by
  have C := Lib.hid (setWord1_any m w h0 hm)
  clear h0 hm
  go_enter Tryz.func125, Tryz.ntmps125
  go_wp2_with fail
  refine C.out.mono ?_
  rintro e w1 ⟨c, L, hc, hL, hL0, rfl, rfl⟩
  obtain ⟨ar, har⟩ : ∃ ar, ar = L.toArray := ⟨_, rfl⟩
  rw [← har]
  have HA := Lib.hid har
  clear har
  go_wp2_with fail
  go_ret
  exact ⟨c, L, hc, hL, hL0, rfl, by rw [HA.out]⟩
set_option maxHeartbeats 1600000 in
theorem setInt64_any (b : Nat) (n : Int) (w : World) (hb : Blk w b 151 [.bool false, .slice none 0 0]) (h0 : n ≠ 0) (h1 : -9223372036854775808 ≤ n) (h2 : n ≤ 9223372036854775807) :
    Calls Tryz.prog 122 #[.pointer (some ⟨b, 0, none⟩), .int .i64 n] w fun e w' => e = .returned (.pointer (some ⟨b, 0, none⟩)) ∧ Bg w' w'.heap.size (some ⟨b, 0, none⟩) n ∧ Up (some b) w w' := by
  obtain ⟨m, hm⟩ : ∃ m, m = n.natAbs := ⟨_, rfl⟩
  have C := Lib.hid (setUint1_any m w (by omega) (by omega))
  have FIN : Hid (∀ (W : World), Below w.heap.size w W → ∀ (c : Nat) (L : List Value), 1 ≤ c → L.length = c → L.getD 0 undef = .int .u64 (m : Int) → Blk W w.heap.size 189 L → ∀ (ng : Bool), ng = decide (n < 0) → (W.cell? ⟨b, 1, none⟩ = some (.slice none 0 0) ∧ W.cell? ⟨b, 0, none⟩ = some (.bool false) ∧ W.frozen? ⟨b, 0, none⟩ = false ∧ W.frozen? ⟨b, 1, none⟩ = false ∧ b < W.heap.size) ∧
      Bg ((W.setCell ⟨b, 1, none⟩ (.slice (some ⟨w.heap.size, 0, none⟩) 1 c)).setCell ⟨b, 0, none⟩ (.bool ng)) ((W.setCell ⟨b, 1, none⟩ (.slice (some ⟨w.heap.size, 0, none⟩) 1 c)).setCell ⟨b, 0, none⟩ (.bool ng)).heap.size (some ⟨b, 0, none⟩) n ∧
      Up (some b) w ((W.setCell ⟨b, 1, none⟩ (.slice (some ⟨w.heap.size, 0, none⟩) 1 c)).setCell ⟨b, 0, none⟩ (.bool ng))) := Lib.hid (fun W u0 c L hc hL hL0 kw ng hng => by
    have hlt := hb.lt
    have hne : b ≠ w.heap.size := by omega
    have kb := hb.below u0 hlt
    refine ⟨⟨kb.cell 1 (by simp), kb.cell 0 (by simp), kb.free 0, kb.free 1, kb.lt⟩, ?_, ((Up.of_below u0).set 1 _).set 0 _⟩
    have kb2 := (kb.set 1 (.slice (some ⟨w.heap.size, 0, none⟩) 1 c)).set 0 (.bool ng)
    have kw2 := (kw.far (p := ⟨b, 1, none⟩) (Ne.symm hne) (.slice (some ⟨w.heap.size, 0, none⟩) 1 c)).far (p := ⟨b, 0, none⟩) (Ne.symm hne) (.bool ng)
    refine ⟨b, .slice (some ⟨w.heap.size, 0, none⟩) 1 c, rfl, kb2.lt, by rw [← hng]; exact kb2, [m], ?_, ?_⟩
    · rw [← hm]; exact rep_one m (by omega) (by omega)
    · refine ⟨_, _, rfl, by simpa using hc, fun _ => ⟨w.heap.size, 0, rfl, kw2.lt, ?_⟩⟩
      intro i hi
      have hi0 : i = 0 := by simpa using hi
      subst hi0
      have := kw2.cell 0 (by omega)
      rw [Nat.zero_add, this, hL0]
      simp [wv])
  have SET : Hid (Calls Tryz.prog 125 #[.slice none 0 0, .int .u64 (m : Int)] w fun e w' => ∃ (c : Nat), e = .returned (.slice (some ⟨w.heap.size, 0, none⟩) 1 c) ∧ (∀ (ng : Bool), ng = decide (n < 0) → (w'.cell? ⟨b, 1, none⟩ = some (.slice none 0 0) ∧ w'.cell? ⟨b, 0, none⟩ = some (.bool false) ∧ w'.frozen? ⟨b, 0, none⟩ = false ∧ w'.frozen? ⟨b, 1, none⟩ = false ∧ b < w'.heap.size) ∧
      Bg ((w'.setCell ⟨b, 1, none⟩ (.slice (some ⟨w.heap.size, 0, none⟩) 1 c)).setCell ⟨b, 0, none⟩ (.bool ng)) ((w'.setCell ⟨b, 1, none⟩ (.slice (some ⟨w.heap.size, 0, none⟩) 1 c)).setCell ⟨b, 0, none⟩ (.bool ng)).heap.size (some ⟨b, 0, none⟩) n ∧
      Up (some b) w ((w'.setCell ⟨b, 1, none⟩ (.slice (some ⟨w.heap.size, 0, none⟩) 1 c)).setCell ⟨b, 0, none⟩ (.bool ng)))) := Lib.hid (C.out.mono (by
    rintro e w' ⟨c, L, hc, hL, hL0, rfl, rfl⟩
    exact ⟨c, rfl, fun ng hng => FIN.out _ ((Below.refl _ _).alloc (Nat.le_refl _) _) c L hc hL hL0 (Blk.new w _ L) ng hng⟩))
  have c1 := hb.cell 1 (by simp)
  have c0 := hb.cell 0 (by simp)
  have hlt := hb.lt
  rcases Int.lt_or_le n 0 with hneg | hpos
  · have e1 : IntKind.u64.wrap (wrap64 (-n)) = (m : Int) := by rw [IntKind.wrap_u64]; unfold wrap64; omega
    have HD : Hid (true = decide (n < 0)) := Lib.hid (by simpa using hneg)
    clear hb hm h0 FIN C
    go_enter Tryz.func122, Tryz.ntmps122
    go_wp2_with fail
    clear e1
    refine SET.out.mono ?_
    rintro e w1 ⟨c, rfl, hF⟩
    obtain ⟨⟨d1, d0, f0, f1, ll⟩, hbg, hup⟩ := hF true HD.out
    have HF := Lib.hid (And.intro hbg hup)
    clear hF hbg hup SET c1 c0
    go_wp2_with fail
    go_ret
    exact ⟨rfl, HF.out.1, HF.out.2⟩
  · have e1 : IntKind.u64.wrap n = (m : Int) := by rw [IntKind.wrap_u64]; omega
    have HD : Hid (false = decide (n < 0)) := Lib.hid (by simpa using hpos)
    clear hb hm h0 FIN C
    go_enter Tryz.func122, Tryz.ntmps122
    go_wp2_with fail
    clear e1
    refine SET.out.mono ?_
    rintro e w1 ⟨c, rfl, hF⟩
    obtain ⟨⟨d1, d0, f0, f1, ll⟩, hbg, hup⟩ := hF false HD.out
    have HF := Lib.hid (And.intro hbg hup)
    clear hF hbg hup SET c1 c0
    go_wp2_with fail
    go_ret
    exact ⟨rfl, HF.out.1, HF.out.2⟩
theorem max64_any (w : World) : Calls Tryz.prog 117 #[] w (BgPost 9223372036854775807 w) := by
  obtain ⟨W0, hW0⟩ : ∃ W0, W0 = w.alloc (.cells #[.bool false, .slice none 0 0] 151) := ⟨_, rfl⟩
  have hk : Blk W0 w.heap.size 151 [.bool false, .slice none 0 0] := by rw [hW0]; exact Blk.new w _ [.bool false, .slice none 0 0]
  have hb : Below w.heap.size w W0 := by rw [hW0]; exact (Below.refl _ _).alloc (Nat.le_refl _) _
  have C := Lib.hid (setInt64_any w.heap.size 9223372036854775807 W0 hk (by decide) (by decide) (by decide))
  have HB := Lib.hid hb
  clear hk hb
  go_enter Tryz.func117, Tryz.ntmps117
  go_wp2_with fail
  rw [← hW0]
  clear hW0
  refine C.out.mono ?_
  rintro e w1 ⟨rfl, hbg, hup⟩
  have HG := Lib.hid hbg; have HU := Lib.hid hup
  clear hbg hup C
  go_wp2_with fail
  go_ret
  exact ⟨_, rfl, HG.out, up_below2' HB.out (Nat.le_refl _) HU.out⟩
theorem min64_any (w : World) : Calls Tryz.prog 118 #[] w (BgPost (-9223372036854775808) w) := by
  obtain ⟨W0, hW0⟩ : ∃ W0, W0 = w.alloc (.cells #[.bool false, .slice none 0 0] 151) := ⟨_, rfl⟩
  have hk : Blk W0 w.heap.size 151 [.bool false, .slice none 0 0] := by rw [hW0]; exact Blk.new w _ [.bool false, .slice none 0 0]
  have hb : Below w.heap.size w W0 := by rw [hW0]; exact (Below.refl _ _).alloc (Nat.le_refl _) _
  have C := Lib.hid (setInt64_any w.heap.size (-9223372036854775808) W0 hk (by decide) (by decide) (by decide))
  have HB := Lib.hid hb
  clear hk hb
  go_enter Tryz.func118, Tryz.ntmps118
  go_wp2_with fail
  rw [← hW0]
  clear hW0
  refine C.out.mono ?_
  rintro e w1 ⟨rfl, hbg, hup⟩
  have HG := Lib.hid hbg; have HU := Lib.hid hup
  clear hbg hup C
  go_wp2_with fail
  go_ret
  exact ⟨_, rfl, HG.out, up_below2' HB.out (Nat.le_refl _) HU.out⟩
/-- the number's lowest 64 bits, for the one number whose magnitude has 64 -/
theorem Int64_min (p : Option Addr) (w : World) (h : Bg w w.heap.size p (-9223372036854775808)) : Calls Tryz.prog 97 #[.pointer p] w fun e w' => e = .returned (.int .i64 (-9223372036854775808)) ∧ w = w' := by
  obtain ⟨b, abs, rfl, hb, hk, hn⟩ := h
  have x0 : w.cell? ⟨b, 0, none⟩ = some (.bool true) := hk.cell 0 (by simp)
  have x1 : w.cell? ⟨b, 1, none⟩ = some abs := hk.cell 1 (by simp)
  have CORE : Hid (Calls Tryz.prog 108 #[abs] w fun e w' => e = .returned (.int .u64 9223372036854775808) ∧ w = w') := Lib.hid (low64_any 9223372036854775808 abs w hn (by decide))
  clear hk hn
  go_enter Tryz.func97, Tryz.ntmps97
  go_wp2_with fail
  refine CORE.out.mono ?_
  rintro e w' ⟨rfl, rfl⟩
  go_wp2_with fail
  go_ret
  exact ⟨by rw [show wrap64 (-wrap64 9223372036854775808) = -9223372036854775808 by unfold wrap64; omega]; rfl, rfl⟩
theorem Int64_all (p : Option Addr) (i : Int) (w : World) (h : Bg w w.heap.size p i) (h1 : -9223372036854775808 ≤ i) (h2 : i ≤ 9223372036854775807) : Calls Tryz.prog 97 #[.pointer p] w fun e w' => e = .returned (.int .i64 i) ∧ w = w' := by
  rcases Int.lt_or_le (-9223372036854775808) i with h3 | h3
  · exact Int64_any p i w h (by omega)
  · obtain rfl : i = -9223372036854775808 := by omega
    exact Int64_min p w h
theorem cmpI_gt (i j : Int) (h : j < i) : cmpI i j = 1 := by unfold cmpI; rw [if_neg (by omega), if_pos h]
theorem cmpI_lt (i j : Int) (h : i < j) : cmpI i j = -1 := by unfold cmpI; rw [if_pos h]
theorem cmpI_eq (i j : Int) (h : i = j) : cmpI i j = 0 := by unfold cmpI; rw [if_neg (by omega), if_neg (by omega)]
set_option maxHeartbeats 1600000 in
theorem bigTo64_any (p : Option Addr) (i : Int) (w : World) (h : Bg w w.heap.size p i) (hl : i.natAbs < lim) :
    Calls Tryz.prog 109 #[.pointer p] w fun e w' => (∃ (x acc : Int), e = .returned (.tuple #[.int .i64 x, .int .i8 acc]) ∧ (fits64 i = true → x = i ∧ acc = 0) ∧ (fits64 i = false → acc ≠ 0)) ∧ Below w.heap.size w w' := by
  have SG := Lib.hid (Sign_any p i w h hl)
  have MX := Lib.hid (max64_any w)
  have MN := Lib.hid (min64_any w)
  have h2 : ∀ w', Below w.heap.size w w' → Bg w' w'.heap.size p i := fun w' hb => (h.below hb).more hb.size
  have CM : Hid (∀ q j w', Below w.heap.size w w' → Bg w' w'.heap.size q j → -9223372036854775808 ≤ j → j ≤ 9223372036854775807 → Calls Tryz.prog 116 #[.pointer p, .pointer q] w' fun e w'' => e = .returned (.int .i64 (cmpI i j)) ∧ Below w.heap.size w w'') := Lib.hid (fun q j w' hb hq h1 h2' => by
    refine (bigCmp_any p q i j w' (h2 w' hb) hq hl (small_lim j h1 h2')).mono ?_
    rintro e w'' ⟨rfl, n, rfl⟩
    exact ⟨rfl, below_drewN hb _⟩)
  have TO : Hid (∀ w', Below w.heap.size w w' → fits64 i = true → Calls Tryz.prog 97 #[.pointer p] w' fun e w'' => e = .returned (.int .i64 i) ∧ w'' = w') := Lib.hid (fun w' hb hf => by
    have hb2 : -9223372036854775808 ≤ i ∧ i ≤ 9223372036854775807 := by unfold fits64 at hf; simpa using hf
    refine (Int64_all p i w' (h2 w' hb) hb2.1 hb2.2).mono ?_
    rintro e w'' ⟨rfl, rfl⟩
    exact ⟨rfl, rfl⟩)
  clear h h2 hl
  unfold BgPost at MX MN
  have H0 : Hid (Below w.heap.size w w) := Below.refl _ _
  rcases Int.lt_trichotomy i 0 with h0 | h0 | h0
  · have hs : sgn i = -1 := by unfold sgn; rw [if_pos h0]
    rw [hs] at SG
    rcases Int.lt_or_le i (-9223372036854775808) with hb | hb
    · have E1 := cmpI_lt i (-9223372036854775808) hb
      have hf : fits64 i = false := by unfold fits64; simp; omega
      have CM1 := Lib.hid (fun q w' => CM.out q (-9223372036854775808) w')
      rw [E1] at CM1
      rw [hf]
      clear E1 hf hs h0 hb MX TO CM
      go_enter Tryz.func109, Tryz.ntmps109
      go_wp2_with fail
      refine SG.out.mono ?_
      rintro e w1 ⟨rfl, rfl⟩
      go_wp2_with fail
      refine MN.out.mono ?_
      rintro e w2 ⟨q, rfl, hq, hb2⟩
      have CM2 := Lib.hid (CM1.out q w2 hb2 hq (by decide) (by decide))
      clear hq hb2 MN CM1
      go_wp2_with fail
      refine CM2.out.mono ?_
      rintro e w3 ⟨rfl, hb3⟩
      have HB3 := Lib.hid hb3
      clear hb3 CM2
      go_wp2_with fail
      go_ret2
      exact ⟨⟨_, 1, rfl, by simp, by simp⟩, HB3.out⟩
    · have E1 : ¬ cmpI i (-9223372036854775808) < 0 := cmpI_ge i _ hb
      have hf : fits64 i = true := by unfold fits64; simp; omega
      have CM1 := Lib.hid (fun q w' => CM.out q (-9223372036854775808) w')
      have TO1 := Lib.hid (fun w' hb => TO.out w' hb hf)
      generalize cmpI i (-9223372036854775808) = cc at *
      rw [hf]
      clear hf hs h0 hb MX TO CM
      go_enter Tryz.func109, Tryz.ntmps109
      go_wp2_with fail
      refine SG.out.mono ?_
      rintro e w1 ⟨rfl, rfl⟩
      go_wp2_with fail
      refine MN.out.mono ?_
      rintro e w2 ⟨q, rfl, hq, hb2⟩
      have CM2 := Lib.hid (CM1.out q w2 hb2 hq (by decide) (by decide))
      clear hq hb2 MN CM1
      go_wp2_with fail
      refine CM2.out.mono ?_
      rintro e w3 ⟨rfl, hb3⟩
      have HB3 := Lib.hid hb3
      clear hb3 CM2
      go_wp2_with fail
      refine (TO1.out _ HB3.out).mono ?_
      rintro e w4 ⟨rfl, rfl⟩
      go_wp2_with fail
      go_ret2
      exact ⟨⟨i, 0, rfl, by simp, by simp⟩, HB3.out⟩
  · subst h0
    have hf : fits64 0 = true := by decide
    have TO1 := Lib.hid (fun w' hb => TO.out w' hb hf)
    have hs : sgn 0 = 0 := by decide
    rw [hs] at SG
    rw [hf]
    clear hf hs MX MN TO CM
    go_enter Tryz.func109, Tryz.ntmps109
    go_wp2_with fail
    refine SG.out.mono ?_
    rintro e w1 ⟨rfl, rfl⟩
    go_wp2_with fail
    refine (TO1.out _ H0.out).mono ?_
    rintro e w4 ⟨rfl, rfl⟩
    go_wp2_with fail
    go_ret2
    exact ⟨⟨0, 0, rfl, by simp, by simp⟩, H0.out⟩
  · have hs : sgn i = 1 := by unfold sgn; rw [if_neg (by omega), if_neg (by omega)]
    rw [hs] at SG
    rcases Int.lt_or_le 9223372036854775807 i with hb | hb
    · have E1 := cmpI_gt i 9223372036854775807 hb
      have hf : fits64 i = false := by unfold fits64; simp; omega
      have CM1 := Lib.hid (fun q w' => CM.out q 9223372036854775807 w')
      rw [E1] at CM1
      rw [hf]
      clear E1 hf hs h0 hb MN TO CM
      go_enter Tryz.func109, Tryz.ntmps109
      go_wp2_with fail
      refine SG.out.mono ?_
      rintro e w1 ⟨rfl, rfl⟩
      go_wp2_with fail
      refine MX.out.mono ?_
      rintro e w2 ⟨q, rfl, hq, hb2⟩
      have CM2 := Lib.hid (CM1.out q w2 hb2 hq (by decide) (by decide))
      clear hq hb2 MX CM1
      go_wp2_with fail
      refine CM2.out.mono ?_
      rintro e w3 ⟨rfl, hb3⟩
      have HB3 := Lib.hid hb3
      clear hb3 CM2
      go_wp2_with fail
      go_ret2
      exact ⟨⟨_, -1, rfl, by simp, by simp⟩, HB3.out⟩
    · have E1 : ¬ 0 < cmpI i 9223372036854775807 := cmpI_le i _ hb
      have hf : fits64 i = true := by unfold fits64; simp; omega
      have CM1 := Lib.hid (fun q w' => CM.out q 9223372036854775807 w')
      have TO1 := Lib.hid (fun w' hb => TO.out w' hb hf)
      generalize cmpI i 9223372036854775807 = cc at *
      rw [hf]
      clear hf hs h0 hb MN TO CM
      go_enter Tryz.func109, Tryz.ntmps109
      go_wp2_with fail
      refine SG.out.mono ?_
      rintro e w1 ⟨rfl, rfl⟩
      go_wp2_with fail
      refine MX.out.mono ?_
      rintro e w2 ⟨q, rfl, hq, hb2⟩
      have CM2 := Lib.hid (CM1.out q w2 hb2 hq (by decide) (by decide))
      clear hq hb2 MX CM1
      go_wp2_with fail
      refine CM2.out.mono ?_
      rintro e w3 ⟨rfl, hb3⟩
      have HB3 := Lib.hid hb3
      clear hb3 CM2
      go_wp2_with fail
      refine (TO1.out _ HB3.out).mono ?_
      rintro e w4 ⟨rfl, rfl⟩
      go_wp2_with fail
      go_ret2
      exact ⟨⟨i, 0, rfl, by simp, by simp⟩, HB3.out⟩
/-- the number of an integer, if it is an int64 -/
theorem starInt64_any (i : Int) (v : Value) (w : World) (hv : In w w.heap.size v i) (hl : i.natAbs < lim) :
    Calls Tryz.prog 99 #[v] w fun e w' => e = .returned (.tuple #[.int .i64 (if fits64 i then i else 0), .bool (fits64 i)]) ∧ Below w.heap.size w w' := by
  obtain ⟨s, p, rfl, h⟩ := hv
  rcases h with ⟨rfl, rfl, h1, h2⟩ | ⟨rfl, h0, hbg⟩
  · have hf : fits64 s = true := by unfold fits64; simp; omega
    have HB0 : Hid (Below w.heap.size w ((w.alloc (.cells #[.int .i64 s, .pointer none] 87)))) := (Below.refl _ _).alloc (Nat.le_refl _) _
    rw [hf]
    clear hf h1 h2
    go_enter Tryz.func99, Tryz.ntmps99
    go_wp2_with fail
    refine (get_any _ _ _).mono ?_
    rintro e w1 ⟨rfl, hb1⟩
    have HB1 := Lib.hid (HB0.out.trans (hb1.mono HB0.out.size))
    clear hb1
    go_wp2_with fail
    go_ret2
    exact ⟨rfl, HB1.out⟩
  · have hb0 : Below w.heap.size w ((w.alloc (.cells #[.int .i64 0, .pointer p] 87))) := (Below.refl _ _).alloc (Nat.le_refl _) _
    have B : Hid (∀ w', Below w.heap.size w w' → Calls Tryz.prog 109 #[.pointer p] w' fun e w'' => (∃ (x acc : Int), e = .returned (.tuple #[.int .i64 x, .int .i8 acc]) ∧ (fits64 i = true → x = i ∧ acc = 0) ∧ (fits64 i = false → acc ≠ 0)) ∧ Below w'.heap.size w' w'') := Lib.hid (fun w' hb => bigTo64_any p i w' ((hbg.below hb).more hb.size) hl)
    obtain ⟨b, hbp⟩ : ∃ b, p = some ⟨b, 0, none⟩ := by obtain ⟨b, abs, hp, _⟩ := hbg; exact ⟨b, hp⟩
    subst hbp
    have HB0 := Lib.hid hb0
    clear hbg hb0 h0 hl
    obtain ⟨f, hf⟩ : ∃ f, f = fits64 i := ⟨_, rfl⟩
    rw [← hf] at B ⊢
    clear hf
    go_enter Tryz.func99, Tryz.ntmps99
    go_wp2_with fail
    refine (get_any _ _ _).mono ?_
    rintro e w1 ⟨rfl, hb1⟩
    have HB1 := Lib.hid (HB0.out.trans (hb1.mono HB0.out.size))
    clear hb1
    go_wp2_with fail
    refine (B.out _ HB1.out).mono ?_
    rintro e w2 ⟨⟨x, acc, rfl, h1, h2⟩, hb2⟩
    have HB2 := Lib.hid (HB1.out.trans (hb2.mono HB1.out.size))
    clear hb2 B
    cases f with
    | true =>
      obtain ⟨rfl, rfl⟩ := h1 rfl
      clear h1 h2
      go_wp2_with fail
      go_ret2
      exact ⟨rfl, HB2.out⟩
    | false =>
      have hne := h2 rfl
      have hne2 : (acc == 0) = false := by simpa using hne
      clear h1 h2
      go_wp2_with fail
      go_ret2
      exact ⟨rfl, HB2.out⟩
end Go.Proofs.YtggpaejlmfppoaaGreat
