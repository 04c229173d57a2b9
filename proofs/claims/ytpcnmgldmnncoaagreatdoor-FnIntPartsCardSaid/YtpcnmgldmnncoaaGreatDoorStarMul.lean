/- (starlark.Int).Mul: of two integers of the package behind different pointers. Printed by genstarmul.py out of XStarAdd and XStar. -/
import Derived.Test.YtpcnmgldmnncoaaGreatDoorBigMul
import Derived.Test.YtpcnmgldmnncoaaGreatDoorStar
import Derived.Test.YtpcnmgldmnncoaaGreatDoorMWhole
import Derived.Deep.RegionHeld3
namespace Go.Proofs.YtpcnmgldmnncoaaGreatDoor
open Go.RowKit Dig
set_option linter.unusedVariables false
set_option linter.unusedSimpArgs false
set_option maxRecDepth 100000

set_option maxHeartbeats 800000 in
theorem bigInt_ptr (v : Value) (i : Int) (B : Nat) (w : World) (s0 : Int) (p0 : Option Addr) (hv0 : v = .agg #[.int .i64 s0, .pointer p0]) (hv : In w B v i) (hB : B ≤ w.heap.size) : Calls Tryz.prog 34 #[v] w (fun e w' => ∃ b, e = .returned (.pointer (some ⟨b, 0, none⟩)) ∧ ((p0 = some ⟨b, 0, none⟩ ∧ b < B) ∨ w.heap.size ≤ b) ∧ Bg w' w'.heap.size (some ⟨b, 0, none⟩) i ∧ Below w.heap.size w w') := by
  obtain ⟨s, p, hv1, h⟩ := hv
  rw [hv0] at hv1
  simp only [Value.agg.injEq] at hv1
  obtain ⟨rfl, rfl⟩ : s = s0 ∧ p = p0 := by simpa [eq_comm] using hv1
  subst hv0
  clear hv1
  rcases h with ⟨rfl, rfl, h1, h2⟩ | ⟨rfl, h1, h2⟩
  · go_enter Tryz.func34, Tryz.ntmps34
    go_wp2_with fail
    refine (get_any _ _ _).mono ?_
    rintro e w1 ⟨rfl, h1⟩
    have H1 := Lib.hid h1; clear h1
    go_wp2_with fail
    refine (newInt_new _ 0 _ (by omega) (by omega)).mono ?_
    rintro e w2 ⟨b, rfl, hn, hb, hw⟩
    have HB := Lib.hid hb
    have HW := Lib.hid hw
    have HN : Hid (w.heap.size ≤ b) := Lib.hid (by have := H1.out.size; simp at this; omega)
    clear hb hw hn
    go_wp2_with fail
    go_ret
    have hb := ((Below.refl w.heap.size w).alloc (Nat.le_refl _) (.cells #[.int .i64 s, .pointer none] 44)).trans (H1.out.mono (by simp))
    exact ⟨b, rfl, .inr HN.out, HB.out, hb.trans (HW.out.mono hb.size)⟩
  · obtain ⟨b, abs, rfl, hb, hk, hn⟩ := id h2
    have H2 := Lib.hid (h2.more hB)
    have HN := Lib.hid hb
    clear hb hk hn h2
    go_enter Tryz.func34, Tryz.ntmps34
    go_wp2_with fail
    refine (get_any _ _ _).mono ?_
    rintro e w1 ⟨rfl, h1⟩
    have hb1 : Below w.heap.size w w1 := ((Below.refl w.heap.size w).alloc (Nat.le_refl _) (.cells #[.int .i64 0, .pointer (some ⟨b, 0, none⟩)] 44)).trans (h1.mono (by simp))
    have HB1 := Lib.hid hb1
    clear h1 hb1
    go_wp2_with fail
    go_ret
    exact ⟨b, rfl, .inl ⟨rfl, HN.out⟩, (H2.out.below HB1.out).more HB1.out.size, HB1.out⟩


/-- St, and the operands' pointers are not the same -/
def StM (W0 : World) (h B : Nat) (i j : Int) (q1 q2 : Option Addr) (oz o1 o2 : Option Nat) (W : World) : Prop :=
  St W0 h i j oz o1 o2 W ∧ (∀ b, o1 = some b → (q1 = some ⟨b, 0, none⟩ ∧ b < B) ∨ h ≤ b) ∧ (∀ b, o2 = some b → (q2 = some ⟨b, 0, none⟩ ∧ b < B) ∨ h ≤ b) ∧ (∀ a b, o1 = some a → o2 = some b → a ≠ b)
section
variable {W0 W : World} {h B : Nat} {i j : Int} {q1 q2 : Option Addr} {oz o1 o2 : Option Nat}
theorem StM.below (s : StM W0 h B i j q1 q2 oz o1 o2 W) : Below h W0 W := s.1.below
theorem StM.drew (s : StM W0 h B i j q1 q2 oz o1 o2 W) : StM W0 h B i j q1 q2 oz o1 o2 W.drew := ⟨s.1.drew, s.2⟩
theorem StM.start (hh : h ≤ W.heap.size) (hb : Below h W0 W) : StM W0 h B i j q1 q2 none none none W := ⟨St.start hh hb, by simp, by simp, by simp⟩
theorem StM.alloc (s : StM W0 h B i j q1 q2 none o1 o2 W) : StM W0 h B i j q1 q2 (some W.heap.size) o1 o2 (W.alloc (.cells #[.bool false, .slice none 0 0] 55)) := ⟨s.1.alloc, s.2⟩
theorem StM.big1 {sv : Int} {w : World} (s : StM W0 h B i j q1 q2 oz none o2 W) (hv : In w B (.agg #[.int .i64 sv, .pointer q1]) i) (hw : Below B w W0) (hB : B ≤ h) (hne : ∀ b, q1 = some ⟨b, 0, none⟩ → q2 ≠ some ⟨b, 0, none⟩) :
    Calls Tryz.prog 34 #[.agg #[.int .i64 sv, .pointer q1]] W fun e w' => ∃ b, e = .returned (.pointer (some ⟨b, 0, none⟩)) ∧ StM W0 h B i j q1 q2 oz (some b) o2 w' := by
  obtain ⟨⟨h1, h2, h3, h4, h5⟩, k1, k2, k3⟩ := s
  refine (bigInt_ptr _ i B W sv q1 rfl (hv.below (hw.trans (h1.mono hB))) (Nat.le_trans hB h2)).mono ?_
  rintro e w' ⟨b, rfl, hn, hbg, hb⟩
  refine ⟨b, rfl, ⟨h1.trans (hb.mono h2), Nat.le_trans h2 hb.size, ?_, ?_, ?_⟩, ?_, k2, ?_⟩
  · intro z hz
    obtain ⟨g1, g2⟩ := h3 z hz
    exact ⟨g1, g2.below hb g2.lt⟩
  · intro b' hb'
    injection hb' with hb'
    subst hb'
    refine ⟨hbg, fun z hz => ?_⟩
    obtain ⟨g1, g2⟩ := h3 z hz
    have := g2.lt
    omega
  · intro b' hb'
    obtain ⟨g1, g2⟩ := h5 b' hb'
    exact ⟨(g1.below hb).more hb.size, g2⟩
  · intro b' hb'
    injection hb' with hb'
    subst hb'
    rcases hn with hn | hn
    · exact .inl hn
    · exact .inr (by omega)
  · intro a c ha hc
    injection ha with ha
    subst ha
    have hcl := ((h5 c hc).1).lt
    rcases hn with ⟨hn, hnl⟩ | hn
    · rcases k2 c hc with ⟨m1, m2⟩ | m
      · rintro rfl; exact hne b hn m1
      · omega
    · omega
theorem StM.big2 {sv : Int} {w : World} (s : StM W0 h B i j q1 q2 oz o1 none W) (hv : In w B (.agg #[.int .i64 sv, .pointer q2]) j) (hw : Below B w W0) (hB : B ≤ h) (hne : ∀ b, q1 = some ⟨b, 0, none⟩ → q2 ≠ some ⟨b, 0, none⟩) :
    Calls Tryz.prog 34 #[.agg #[.int .i64 sv, .pointer q2]] W fun e w' => ∃ b, e = .returned (.pointer (some ⟨b, 0, none⟩)) ∧ StM W0 h B i j q1 q2 oz o1 (some b) w' := by
  obtain ⟨⟨h1, h2, h3, h4, h5⟩, k1, k2, k3⟩ := s
  refine (bigInt_ptr _ j B W sv q2 rfl (hv.below (hw.trans (h1.mono hB))) (Nat.le_trans hB h2)).mono ?_
  rintro e w' ⟨b, rfl, hn, hbg, hb⟩
  refine ⟨b, rfl, ⟨h1.trans (hb.mono h2), Nat.le_trans h2 hb.size, ?_, ?_, ?_⟩, k1, ?_, ?_⟩
  · intro z hz
    obtain ⟨g1, g2⟩ := h3 z hz
    exact ⟨g1, g2.below hb g2.lt⟩
  · intro b' hb'
    obtain ⟨g1, g2⟩ := h4 b' hb'
    exact ⟨(g1.below hb).more hb.size, g2⟩
  · intro b' hb'
    injection hb' with hb'
    subst hb'
    refine ⟨hbg, fun z hz => ?_⟩
    obtain ⟨g1, g2⟩ := h3 z hz
    have := g2.lt
    omega
  · intro b' hb'
    injection hb' with hb'
    subst hb'
    rcases hn with hn | hn
    · exact .inl hn
    · exact .inr (by omega)
  · intro a c ha hc
    injection hc with hc
    subst hc
    have hal := ((h4 a ha).1).lt
    rcases hn with ⟨hn, hnl⟩ | hn
    · rcases k1 a ha with ⟨m1, m2⟩ | m
      · rintro rfl; exact hne a m1 hn
      · omega
    · omega
theorem StM.mul {z b1 b2 : Nat} (s : StM W0 h B i j q1 q2 (some z) (some b1) (some b2) W) (hi : i.natAbs < lim) (hj : j.natAbs < lim) (h40 : i.natAbs < 18446744073709551616 ^ 39 ∨ j.natAbs < 18446744073709551616 ^ 39) (hgl : 3 < h) (hthr : W0.cell? ⟨3, 0, none⟩ = some (.int .i64 40)) :
    Calls Tryz.prog 39 #[.pointer (some ⟨z, 0, none⟩), .pointer (some ⟨b1, 0, none⟩), .pointer (some ⟨b2, 0, none⟩)] W fun e w' => e = .returned (.pointer (some ⟨z, 0, none⟩)) ∧ Bg w' w'.heap.size (some ⟨z, 0, none⟩) (i * j) ∧ Below h W0 w' := by
  obtain ⟨⟨h1, h2, h3, h4, h5⟩, k1, k2, k3⟩ := s
  obtain ⟨g1, g2⟩ := h3 z rfl
  obtain ⟨p1, p2⟩ := h4 b1 rfl
  obtain ⟨m1, m2⟩ := h5 b2 rfl
  refine (bigMul_any z _ _ i j W g2 p1 m1 (fun e => p2 z rfl (by injection e with e; injection e)) (fun e => m2 z rfl (by injection e with e; injection e)) (fun e => k3 b1 b2 rfl rfl (by injection e with e; injection e)) hi hj h40 ((h1.cell (p := ⟨3, 0, none⟩) hgl).trans hthr)).mono ?_
  rintro e w' ⟨rfl, hb, hu⟩
  exact ⟨rfl, hb, h1.trans (hu.below h2 (fun k hk => by injection hk with hk; omega))⟩
end
set_option maxHeartbeats 3200000 in
theorem intMul_any (i j : Int) (v1 v2 : Value) (w : World) (h1 : In w w.heap.size v1 i) (h2 : In w w.heap.size v2 j) (hi : i.natAbs < lim) (hj : j.natAbs < lim) (hr : (i * j).natAbs < lim) (hne : ∀ s t b, v1 = .agg #[.int .i64 s, .pointer (some ⟨b, 0, none⟩)] → v2 ≠ .agg #[.int .i64 t, .pointer (some ⟨b, 0, none⟩)]) (h40 : i.natAbs < 18446744073709551616 ^ 39 ∨ j.natAbs < 18446744073709551616 ^ 39) (hgl : 3 < w.heap.size) (hthr : w.cell? ⟨3, 0, none⟩ = some (.int .i64 40)) :
    Calls Tryz.prog 21 #[v1, v2] w (InPost (i * j) w) := by
  obtain ⟨s1, q1, rfl⟩ := h1.form
  obtain ⟨s2, q2, rfl⟩ := h2.form
  have c1 := h1.cases2
  have c2 := h2.cases2
  obtain ⟨W0, hW0⟩ : ∃ W0, W0 = ((w.alloc (.cells #[.int .i64 s1, .pointer q1] 44)).alloc (.cells #[.int .i64 s2, .pointer q2] 44)).alloc (.cells #[.int .i64 0, .pointer none] 44) := ⟨_, rfl⟩
  have hsz : W0.heap.size = w.heap.size + 3 := by rw [hW0]; simp
  have hb0 : Below w.heap.size w W0 := by rw [hW0]; exact (((Below.refl _ _).alloc (Nat.le_refl _) _).alloc (by simp) _).alloc (by simp; omega) _
  have hX : Blk W0 w.heap.size 44 [.int .i64 s1, .pointer q1] := by rw [hW0]; exact ((Blk.new w _ [.int .i64 s1, .pointer q1]).alloc _).alloc _
  have hY : Blk W0 (w.heap.size + 1) 44 [.int .i64 s2, .pointer q2] := by
    rw [hW0]
    have := (Blk.new (w.alloc (.cells #[.int .i64 s1, .pointer q1] 44)) 44 [.int .i64 s2, .pointer q2]).alloc (.cells #[.int .i64 0, .pointer none] 44)
    simpa using this
  have hZ : Blk W0 (w.heap.size + 1 + 1) 44 [.int .i64 0, .pointer none] := by
    rw [hW0]
    have := Blk.new ((w.alloc (.cells #[.int .i64 s1, .pointer q1] 44)).alloc (.cells #[.int .i64 s2, .pointer q2] 44)) 44 [.int .i64 0, .pointer none]
    simpa using this
  have hthr0 : W0.cell? ⟨3, 0, none⟩ = some (.int .i64 40) := (hb0.cell (p := ⟨3, 0, none⟩) hgl).trans hthr
  have hpq : ∀ b, q1 = some ⟨b, 0, none⟩ → q2 ≠ some ⟨b, 0, none⟩ := fun b h1 h2 => hne s1 s2 b (by rw [h1]) (by rw [h2])
  have STEP0 : Hid (∀ w1, Below W0.heap.size W0 w1 → Below (w.heap.size + 3) W0 w1) := Lib.hid (fun w1 h => h.mono (by omega))
  have STEP : Hid (∀ w1 w2, Below (w.heap.size + 3) W0 w1 → Below w1.heap.size w1 w2 → Below (w.heap.size + 3) W0 w2) := Lib.hid (fun w1 w2 h1 h2 => h1.trans (h2.mono (by have := h1.size; omega)))
  have START : Hid (∀ w1, Below (w.heap.size + 3) W0 w1 → StM W0 (w.heap.size + 3) w.heap.size i j q1 q2 none none none w1) := Lib.hid (fun w1 h => StM.start (by have := h.size; omega) h)
  have KEEP : Hid (∀ W, Below (w.heap.size + 3) W0 W → (W.cell? ⟨w.heap.size, 0, none⟩ = some (.int .i64 s1) ∧ W.cell? ⟨w.heap.size, 1, none⟩ = some (.pointer q1) ∧ W.cell? ⟨w.heap.size + 1, 0, none⟩ = some (.int .i64 s2) ∧ W.cell? ⟨w.heap.size + 1, 1, none⟩ = some (.pointer q2)) ∧
      (W.cell? ⟨w.heap.size + 1 + 1, 0, none⟩ = some (.int .i64 0) ∧ W.cell? ⟨w.heap.size + 1 + 1, 1, none⟩ = some (.pointer none) ∧ W.frozen? ⟨w.heap.size + 1 + 1, 0, none⟩ = false ∧ W.frozen? ⟨w.heap.size + 1 + 1, 1, none⟩ = false)) := Lib.hid (fun W h => by
    have hX' := hX.below h (by omega)
    have hY' := hY.below h (by omega)
    have hZ' := hZ.below h (by omega)
    exact ⟨⟨hX'.cell 0 (by simp), hX'.cell 1 (by simp), hY'.cell 0 (by simp), hY'.cell 1 (by simp)⟩, hZ'.cell 0 (by simp), hZ'.cell 1 (by simp), hZ'.free 0, hZ'.free 1⟩)
  have FIN : Hid (∀ (W W' : World) (s : Int) (q : Option Addr), Below (w.heap.size + 3) W0 W → Below W.heap.size W W' → In W' W'.heap.size (.agg #[.int .i64 s, .pointer q]) (i * j) → InPost (i * j) w (.returned (.agg #[.int .i64 s, .pointer q])) ((W'.setCell ⟨w.heap.size + 1 + 1, 0, none⟩ (.int .i64 s)).setCell ⟨w.heap.size + 1 + 1, 1, none⟩ (.pointer q))) := Lib.hid (by
    intro W W' s q h h' hin
    have hb : Below (w.heap.size + 3) W0 W' := h.trans (h'.mono (by have := h.size; omega))
    have := hin.store (w := w) (hZ.below hb (by omega)) (by simp [wv]) (hb0.trans (hb.mono (by omega))) (by omega)
    exact ⟨_, rfl, this.1, this.2⟩)
  have B1 : Hid (∀ oz o2 W, StM W0 (w.heap.size + 3) w.heap.size i j q1 q2 oz none o2 W → Calls Tryz.prog 34 #[.agg #[.int .i64 s1, .pointer q1]] W fun e w' => ∃ b, e = .returned (.pointer (some ⟨b, 0, none⟩)) ∧ StM W0 (w.heap.size + 3) w.heap.size i j q1 q2 oz (some b) o2 w') := Lib.hid (fun oz o2 W s => s.big1 h1 hb0 (by omega) hpq)
  have B2 : Hid (∀ oz o1 W, StM W0 (w.heap.size + 3) w.heap.size i j q1 q2 oz o1 none W → Calls Tryz.prog 34 #[.agg #[.int .i64 s2, .pointer q2]] W fun e w' => ∃ b, e = .returned (.pointer (some ⟨b, 0, none⟩)) ∧ StM W0 (w.heap.size + 3) w.heap.size i j q1 q2 oz o1 (some b) w') := Lib.hid (fun oz o1 W s => s.big2 h2 hb0 (by omega) hpq)
  have OPC : Hid (∀ z b1 b2 W, StM W0 (w.heap.size + 3) w.heap.size i j q1 q2 (some z) (some b1) (some b2) W → Calls Tryz.prog 39 #[.pointer (some ⟨z, 0, none⟩), .pointer (some ⟨b1, 0, none⟩), .pointer (some ⟨b2, 0, none⟩)] W fun e w' => e = .returned (.pointer (some ⟨z, 0, none⟩)) ∧ Bg w' w'.heap.size (some ⟨z, 0, none⟩) (i * j) ∧ Below (w.heap.size + 3) W0 w') := Lib.hid (fun z b1 b2 W s => s.mul hi hj h40 (by omega) hthr0)
  have MB : Hid (∀ p W, Bg W W.heap.size p (i * j) → Calls Tryz.prog 28 #[.pointer p] W (InPost (i * j) W)) := Lib.hid (fun p W h => makeBigInt_any p _ W h hr)
  clear h1 h2 hsz hb0 hX hY hZ hi hj hr hthr hthr0 hgl hpq hne h40
  subst hW0
  have core : ((q1 = none ∧ q2 = none) ∧ (s1 = i ∧ -2147483648 ≤ i ∧ i ≤ 2147483647) ∧ (s2 = j ∧ -2147483648 ≤ j ∧ j ≤ 2147483647)) ∨ (∃ b, q1 = some ⟨b, 0, none⟩) ∨ (q1 = none ∧ ∃ b, q2 = some ⟨b, 0, none⟩) := by
    rcases c1 with ⟨rfl, e1, e2, e3⟩ | h
    · rcases c2 with ⟨rfl, f1, f2, f3⟩ | h2
      · exact .inl ⟨⟨rfl, rfl⟩, ⟨e1, e2, e3⟩, f1, f2, f3⟩
      · exact .inr (.inr ⟨rfl, h2⟩)
    · exact .inr (.inl h)
  clear c1 c2
  rcases core with ⟨⟨rfl, rfl⟩, ⟨rfl, i1, i2⟩, rfl, j1, j2⟩ | core
  · clear B1 B2 OPC MB START
    have hab : (s1 * s2).natAbs ≤ 2147483648 * 2147483648 := by rw [Int.natAbs_mul]; exact Nat.mul_le_mul (by omega) (by omega)
    have hs1 : -4611686018427387904 ≤ s1 * s2 := by omega
    have hs2 : s1 * s2 ≤ 4611686018427387904 := by omega
    have MI := Lib.hid (fun W => makeInt64_any (s1 * s2) W (by omega) (by omega))
    clear hab
    go_enter Tryz.func21, Tryz.ntmps21
    go_wp2_with fail
    refine (get_any _ _ _).mono ?_
    rintro e w1 ⟨rfl, hb1⟩
    have HB1 := Lib.hid (STEP0.out _ hb1)
    obtain ⟨⟨p0, p1, p2, p3⟩, _⟩ := KEEP.out _ HB1.out
    clear hb1
    go_wp2_with fail
    refine (get_any _ _ _).mono ?_
    rintro e w2 ⟨rfl, hb2⟩
    have HB0 := Lib.hid (STEP.out _ _ HB1.out hb2)
    clear hb2 HB1
    go_wp2_with fail
    refine (MI.out _).mono ?_
    rintro e w6 ⟨v, rfl, hin, hb6⟩
    obtain ⟨s6, q6, rfl⟩ := hin.form
    have F := Lib.hid (FIN.out _ _ s6 q6 HB0.out hb6 hin)
    obtain ⟨_, r0, r1, r2, r3⟩ := KEEP.out _ (STEP.out _ _ HB0.out hb6)
    clear hin hb6
    go_wp2_with fail
    refine bodyPost_ret (v := .agg #[.int .i64 s6, .pointer q6]) (by simp [results, Tryz.results21, go_sem, r0, r1]) rfl ?_
    exact F.out
  · have core2 : (q1 = none → ∃ b, q2 = some ⟨b, 0, none⟩) := by
      intro h
      rcases core with ⟨b, hb⟩ | ⟨_, h2⟩
      · rw [h] at hb; cases hb
      · exact h2
    rcases core with ⟨b1, rfl⟩ | ⟨rfl, b2, rfl⟩
    · clear core2
      go_enter Tryz.func21, Tryz.ntmps21
      go_wp2_with fail
      refine (get_any _ _ _).mono ?_
      rintro e w1 ⟨rfl, hb1⟩
      have HB1 := Lib.hid (STEP0.out _ hb1)
      obtain ⟨⟨p0, p1, p2, p3⟩, _⟩ := KEEP.out _ HB1.out
      clear hb1
      go_wp2_with fail
      refine (get_any _ _ _).mono ?_
      rintro e w2 ⟨rfl, hb2⟩
      have HB0 := Lib.hid (STEP.out _ _ HB1.out hb2)
      have HS := Lib.hid (START.out _ HB0.out)
      obtain ⟨⟨p0, p1, p2, p3⟩, _⟩ := KEEP.out _ HB0.out
      clear hb2 HB1
      go_wp2_with fail
      go_region_held3 (fun w' => w'.cell? ⟨w.heap.size, 0, none⟩ = some (.int .i64 s1) ∧ w'.cell? ⟨w.heap.size, 1, none⟩ = some (.pointer (some ⟨b1, 0, none⟩)) ∧ w'.cell? ⟨w.heap.size + 1, 0, none⟩ = some (.int .i64 s2) ∧ w'.cell? ⟨w.heap.size + 1, 1, none⟩ = some (.pointer q2)) (first | (refine ⟨?_, ?_, ?_, ?_⟩ <;> assumption) | exact (KEEP.out _ HS.out.alloc.below).1 | exact (KEEP.out _ HS.out.alloc.drew.below).1 | exact (KEEP.out _ HS.out.drew.alloc.below).1 | (refine ⟨?_, ?_, ?_, ?_⟩ <;> go_simp)) (first
        | (go_at_call 34; (with_reducible refine (B1.out _ _ _ (by first | exact HS.out | exact HS.out.drew | exact HS.out.alloc | exact HS.out.alloc.drew | exact HS.out.drew.alloc)).mono ?_); rintro e w3 ⟨d1, rfl, hs⟩; have HS := Lib.hid hs; obtain ⟨⟨p0, p1, p2, p3⟩, _⟩ := KEEP.out _ hs.below; clear hs)
        | (go_at_call 34; (with_reducible refine (B2.out _ _ _ (by first | exact HS.out | exact HS.out.drew | exact HS.out.alloc | exact HS.out.alloc.drew | exact HS.out.drew.alloc)).mono ?_); rintro e w4 ⟨d2, rfl, hs⟩; have HS := Lib.hid hs; obtain ⟨⟨p0, p1, p2, p3⟩, _⟩ := KEEP.out _ hs.below; clear hs)
        | (go_at_call 39; refine (OPC.out _ _ _ _ (by first | exact HS.out | exact HS.out.alloc)).mono ?_; rintro e w5 ⟨rfl, hbg, hbl⟩; have HG := Lib.hid hbg; have HBL := Lib.hid hbl; obtain ⟨⟨p0, p1, p2, p3⟩, _⟩ := KEEP.out _ hbl; clear hbg hbl)
        | (go_at_call 28; refine (MB.out _ _ HG.out).mono ?_; rintro e w6 ⟨v, rfl, hin, hb6⟩; obtain ⟨s6, q6, rfl⟩ := hin.form; have F := Lib.hid (FIN.out _ _ s6 q6 HBL.out hb6 hin); obtain ⟨⟨p0, p1, p2, p3⟩, r0, r1, r2, r3⟩ := KEEP.out _ (STEP.out _ _ HBL.out hb6); clear hin hb6))
      all_goals
        go_wp2_with fail
        refine bodyPost_ret (v := .agg #[.int .i64 s6, .pointer q6]) (by simp [results, Tryz.results21, go_sem, r0, r1]) rfl ?_
        exact F.out
    · clear core2
      go_enter Tryz.func21, Tryz.ntmps21
      go_wp2_with fail
      refine (get_any _ _ _).mono ?_
      rintro e w1 ⟨rfl, hb1⟩
      have HB1 := Lib.hid (STEP0.out _ hb1)
      obtain ⟨⟨p0, p1, p2, p3⟩, _⟩ := KEEP.out _ HB1.out
      clear hb1
      go_wp2_with fail
      refine (get_any _ _ _).mono ?_
      rintro e w2 ⟨rfl, hb2⟩
      have HB0 := Lib.hid (STEP.out _ _ HB1.out hb2)
      have HS := Lib.hid (START.out _ HB0.out)
      obtain ⟨⟨p0, p1, p2, p3⟩, _⟩ := KEEP.out _ HB0.out
      clear hb2 HB1
      go_wp2_with fail
      go_region_held3 (fun w' => w'.cell? ⟨w.heap.size, 0, none⟩ = some (.int .i64 s1) ∧ w'.cell? ⟨w.heap.size, 1, none⟩ = some (.pointer none) ∧ w'.cell? ⟨w.heap.size + 1, 0, none⟩ = some (.int .i64 s2) ∧ w'.cell? ⟨w.heap.size + 1, 1, none⟩ = some (.pointer (some ⟨b2, 0, none⟩))) (first | (refine ⟨?_, ?_, ?_, ?_⟩ <;> assumption) | exact (KEEP.out _ HS.out.alloc.below).1 | exact (KEEP.out _ HS.out.alloc.drew.below).1 | exact (KEEP.out _ HS.out.drew.alloc.below).1 | (refine ⟨?_, ?_, ?_, ?_⟩ <;> go_simp)) (first
        | (go_at_call 34; (with_reducible refine (B1.out _ _ _ (by first | exact HS.out | exact HS.out.drew | exact HS.out.alloc | exact HS.out.alloc.drew | exact HS.out.drew.alloc)).mono ?_); rintro e w3 ⟨d1, rfl, hs⟩; have HS := Lib.hid hs; obtain ⟨⟨p0, p1, p2, p3⟩, _⟩ := KEEP.out _ hs.below; clear hs)
        | (go_at_call 34; (with_reducible refine (B2.out _ _ _ (by first | exact HS.out | exact HS.out.drew | exact HS.out.alloc | exact HS.out.alloc.drew | exact HS.out.drew.alloc)).mono ?_); rintro e w4 ⟨d2, rfl, hs⟩; have HS := Lib.hid hs; obtain ⟨⟨p0, p1, p2, p3⟩, _⟩ := KEEP.out _ hs.below; clear hs)
        | (go_at_call 39; refine (OPC.out _ _ _ _ (by first | exact HS.out | exact HS.out.alloc)).mono ?_; rintro e w5 ⟨rfl, hbg, hbl⟩; have HG := Lib.hid hbg; have HBL := Lib.hid hbl; obtain ⟨⟨p0, p1, p2, p3⟩, _⟩ := KEEP.out _ hbl; clear hbg hbl)
        | (go_at_call 28; refine (MB.out _ _ HG.out).mono ?_; rintro e w6 ⟨v, rfl, hin, hb6⟩; obtain ⟨s6, q6, rfl⟩ := hin.form; have F := Lib.hid (FIN.out _ _ s6 q6 HBL.out hb6 hin); obtain ⟨⟨p0, p1, p2, p3⟩, r0, r1, r2, r3⟩ := KEEP.out _ (STEP.out _ _ HBL.out hb6); clear hin hb6))
      all_goals
        go_wp2_with fail
        refine bodyPost_ret (v := .agg #[.int .i64 s6, .pointer q6]) (by simp [results, Tryz.results21, go_sem, r0, r1]) rfl ?_
        exact F.out
end Go.Proofs.YtpcnmgldmnncoaaGreatDoor
