/- (spec.Int).Add: the reference's sum of two integers. -/
import Derived.Test.YthnmkbdeoahiaaaSpecAdd
import Derived.Deep.RegionHeld3
namespace Go.Proofs.Ythnmkbdeoahiaaa
open Go.RowKit Dig
set_option linter.unusedVariables false
set_option linter.unusedSimpArgs false
set_option maxRecDepth 100000

/-- Of, by the number that the bytes stand for -/
theorem of_by (neg : Bool) (m : Nat) (v : Value) (w : World) (h : By w w.heap.size v m) (hm : m < 256 * lim) : Calls Try.prog 22 #[.bool neg, v] w (SpPost (if neg then -(m : Int) else m) w) := by
  obtain ⟨ms, hB, hs⟩ := h
  have e : bval ms = m := Rep.val hB
  have hl : ms.length ≤ 70368744177664 := by
    have hm2 : m < 256 ^ (8 * limW + 1) := by
      unfold lim at hm
      rw [Nat.pow_succ, Nat.mul_comm]; exact hm
    have h1 := Rep.length_le (by omega) hB hm2
    rw [limW_eq] at h1
    simp only [List.length_reverse] at h1
    omega
  have C := of_any neg ms v w (Bytes.lt hB) hl hs
  rw [e] at C
  refine C.mono ?_
  intro e w' h
  obtain ⟨v, he, hsp, hb⟩ := h.sp
  exact ⟨v, he, hsp, hb⟩
/-- the world in which the sum is reckoned: two arguments and the result -/
def addW (w : World) (n1 n2 : Bool) (m1 m2 : Value) : World :=
  ((w.alloc (.cells #[.bool n1, m1] 24)).alloc (.cells #[.bool n2, m2] 24)).alloc (.cells #[.bool false, .slice none 0 0] 24)
theorem addW_facts (w : World) (n1 n2 : Bool) (m1 m2 : Value) : (addW w n1 n2 m1 m2).heap.size = w.heap.size + 3 ∧ Below w.heap.size w (addW w n1 n2 m1 m2) ∧ Blk (addW w n1 n2 m1 m2) w.heap.size 24 [.bool n1, m1] ∧
    Blk (addW w n1 n2 m1 m2) (w.heap.size + 1) 24 [.bool n2, m2] ∧ Blk (addW w n1 n2 m1 m2) (w.heap.size + 1 + 1) 24 [.bool false, .slice none 0 0] := by
  refine ⟨by simp [addW], (((Below.refl _ _).alloc (Nat.le_refl _) _).alloc (by simp) _).alloc (by simp; omega) _, ((Blk.new w _ [.bool n1, m1]).alloc _).alloc _, ?_, ?_⟩
  · have := (Blk.new (w.alloc (.cells #[.bool n1, m1] 24)) 24 [.bool n2, m2]).alloc (.cells #[.bool false, .slice none 0 0] 24)
    simpa [addW] using this
  · have := Blk.new ((w.alloc (.cells #[.bool n1, m1] 24)).alloc (.cells #[.bool n2, m2] 24)) 24 [.bool false, .slice none 0 0]
    simpa [addW] using this

set_option maxHeartbeats 3200000 in
theorem specAdd_any (i j : Int) (x y : Value) (w : World) (hx : Sp w w.heap.size x i) (hy : Sp w w.heap.size y j) (hi : i.natAbs < lim) (hj : j.natAbs < lim) :
    Calls Try.prog 17 #[x, y] w (SpPost (i + j) w) := by
  obtain ⟨m1, rfl, b1⟩ := hx
  obtain ⟨m2, rfl, b2⟩ := hy
  obtain ⟨a1, c1, hm1⟩ : ∃ (a1 : Option Addr) (c1 : Nat × Nat), m1 = .slice a1 c1.1 c1.2 := by obtain ⟨ms, _, a, c, rfl, _⟩ := b1; exact ⟨a, (_, c), rfl⟩
  obtain ⟨k1, c1⟩ := c1
  obtain ⟨a2, c2, hm2⟩ : ∃ (a2 : Option Addr) (c2 : Nat × Nat), m2 = .slice a2 c2.1 c2.2 := by obtain ⟨ms, _, a, c, rfl, _⟩ := b2; exact ⟨a, (_, c), rfl⟩
  obtain ⟨k2, c2⟩ := c2
  simp only at hm1 hm2
  obtain ⟨s1, hs1⟩ : ∃ s, s = decide (i < 0) := ⟨_, rfl⟩
  obtain ⟨s2, hs2⟩ : ∃ s, s = decide (j < 0) := ⟨_, rfl⟩
  rw [← hs1, ← hs2]
  obtain ⟨f1, f2, f3, f4, f5⟩ := addW_facts w s1 s2 m1 m2
  obtain ⟨W0, hW0⟩ : ∃ W0, W0 = addW w s1 s2 m1 m2 := ⟨_, rfl⟩
  rw [← hW0] at f1 f2 f3 f4 f5
  have BASE : Hid (Below (w.heap.size + 3) W0 W0.drew) := (Below.refl _ _).drew
  have BASE0 : Hid (Below (w.heap.size + 3) W0 W0) := (Below.refl _ _)
  have KEEP : Hid (∀ W, Below (w.heap.size + 3) W0 W → (W.cell? ⟨w.heap.size, 0, none⟩ = some (.bool s1) ∧ W.cell? ⟨w.heap.size, 1, none⟩ = some m1 ∧ W.cell? ⟨w.heap.size + 1, 0, none⟩ = some (.bool s2) ∧ W.cell? ⟨w.heap.size + 1, 1, none⟩ = some m2) ∧
      (W.cell? ⟨w.heap.size + 1 + 1, 0, none⟩ = some (.bool false) ∧ W.cell? ⟨w.heap.size + 1 + 1, 1, none⟩ = some (.slice none 0 0) ∧ W.frozen? ⟨w.heap.size + 1 + 1, 0, none⟩ = false ∧ W.frozen? ⟨w.heap.size + 1 + 1, 1, none⟩ = false)) := Lib.hid (by
    intro W h
    have g3 := f3.below h (by omega)
    have g4 := f4.below h (by omega)
    have g5 := f5.below h (by omega)
    exact ⟨⟨g3.cell 0 (by simp), g3.cell 1 (by simp), g4.cell 0 (by simp), g4.cell 1 (by simp)⟩, g5.cell 0 (by simp), g5.cell 1 (by simp), g5.free 0, g5.free 1⟩)
  have BY1 : Hid (∀ W, Below (w.heap.size + 3) W0 W → By W W.heap.size m1 i.natAbs ∧ By W W.heap.size m2 j.natAbs) := Lib.hid (by
    intro W h
    have hb := f2.trans (h.mono (by omega))
    exact ⟨(b1.below hb).more hb.size, (b2.below hb).more hb.size⟩)
  have MAG : Hid (∀ (m : Nat) (W : World) (e : Ending) (w' : World), Below (w.heap.size + 3) W0 W → ByPost m W e w' → ∃ (a : Option Addr) (k c : Nat), e = .returned (.slice a k c) ∧ By w' w'.heap.size (.slice a k c) m ∧ Below (w.heap.size + 3) W0 w') := Lib.hid (by
    rintro m W e w' hb ⟨v, rfl, ⟨ms, h1, h2⟩, h3⟩
    obtain ⟨a, c, rfl, hc, hr⟩ := id h2
    exact ⟨a, _, c, rfl, ⟨ms, h1, h2⟩, hb.trans (h3.mono (by have := hb.size; omega))⟩)
  have SUM : Hid (∀ W, Below (w.heap.size + 3) W0 W → Calls Try.prog 36 #[m1, m2] W fun e w' => ∃ (a : Option Addr) (k c : Nat), e = .returned (.slice a k c) ∧ By w' w'.heap.size (.slice a k c) (i.natAbs + j.natAbs) ∧ Below (w.heap.size + 3) W0 w') := Lib.hid (by
    intro W h
    obtain ⟨h1, h2⟩ := BY1.out W h
    exact (sum_any _ _ _ _ W h1 h2 hi hj).mono fun e w' hp => MAG.out _ W e w' h hp)
  have LES1 : Hid (j.natAbs ≤ i.natAbs → ∀ W, Below (w.heap.size + 3) W0 W → Calls Try.prog 38 #[m1, m2] W fun e w' => ∃ (a : Option Addr) (k c : Nat), e = .returned (.slice a k c) ∧ By w' w'.heap.size (.slice a k c) (i.natAbs - j.natAbs) ∧ Below (w.heap.size + 3) W0 w') := Lib.hid (by
    intro hle W h
    obtain ⟨h1, h2⟩ := BY1.out W h
    exact (less_any _ _ _ _ W h1 h2 hi hj hle).mono fun e w' hp => MAG.out _ W e w' h hp)
  have LES2 : Hid (i.natAbs ≤ j.natAbs → ∀ W, Below (w.heap.size + 3) W0 W → Calls Try.prog 38 #[m2, m1] W fun e w' => ∃ (a : Option Addr) (k c : Nat), e = .returned (.slice a k c) ∧ By w' w'.heap.size (.slice a k c) (j.natAbs - i.natAbs) ∧ Below (w.heap.size + 3) W0 w') := Lib.hid (by
    intro hle W h
    obtain ⟨h1, h2⟩ := BY1.out W h
    exact (less_any _ _ _ _ W h2 h1 hj hi hle).mono fun e w' hp => MAG.out _ W e w' h hp)
  have ORD : Hid (∀ W, Below (w.heap.size + 3) W0 W → Calls Try.prog 37 #[m1, m2] W fun e w' => e = .returned (.int .i64 (cmpN i.natAbs j.natAbs)) ∧ Below (w.heap.size + 3) W0 w') := Lib.hid (by
    intro W h
    obtain ⟨h1, h2⟩ := BY1.out W h
    refine (order_any _ _ _ _ W h1 h2 hi hj).mono ?_
    rintro e w' ⟨rfl, hq⟩
    exact ⟨rfl, h.trans (hq.below.mono (by have := h.size; omega))⟩)
  have OF : Hid (∀ (neg : Bool) (m : Nat) (v : Value) (W : World), m < 2 * lim → (if neg then -(m : Int) else m) = i + j → Below (w.heap.size + 3) W0 W → By W W.heap.size v m → Calls Try.prog 22 #[.bool neg, v] W fun e w' => ∃ (x : Bool) (a : Option Addr) (k c : Nat), e = .returned (.agg #[.bool x, .slice a k c]) ∧ Sp w' w'.heap.size (.agg #[.bool x, .slice a k c]) (i + j) ∧ Below (w.heap.size + 3) W0 w') := Lib.hid (by
    intro neg m v W hm he hb hby
    have C := of_by neg m v W hby (by omega)
    rw [he] at C
    refine C.mono ?_
    rintro e w' ⟨v', rfl, hsp, hb'⟩
    obtain ⟨x, a, k, c, rfl⟩ := hsp.form
    exact ⟨x, a, k, c, rfl, hsp, hb.trans (hb'.mono (by have := hb.size; omega))⟩)
  have FIN : Hid (∀ (x : Bool) (a : Option Addr) (k c : Nat) (W : World), Below (w.heap.size + 3) W0 W → Sp W W.heap.size (.agg #[.bool x, .slice a k c]) (i + j) → SpPost (i + j) w (.returned (.agg #[.bool x, .slice a k c])) ((W.setCell ⟨w.heap.size + 1 + 1, 0, none⟩ (.bool x)).setCell ⟨w.heap.size + 1 + 1, 1, none⟩ (.slice a k c))) := Lib.hid (by
    intro x a k c W h hsp
    have g5 := f5.below h (by omega)
    have := hsp.store (w := w) g5 (by simp [bv]) (f2.trans (h.mono (by omega))) (by omega)
    exact ⟨_, rfl, this.1, this.2⟩)
  have hcmp1 : Hid (j.natAbs ≤ i.natAbs → 0 ≤ cmpN i.natAbs j.natAbs) := Lib.hid (by intro h; unfold cmpN; rw [if_neg (by omega)]; split <;> omega)
  have hcmp2 : Hid (¬ j.natAbs ≤ i.natAbs → ¬ 0 ≤ cmpN i.natAbs j.natAbs) := Lib.hid (by intro h; unfold cmpN; rw [if_pos (by omega)]; omega)
  have S1 : Hid (s1 = true ↔ i < 0) := Lib.hid (by rw [hs1]; simp)
  have S2 : Hid (s2 = true ↔ j < 0) := Lib.hid (by rw [hs2]; simp)
  have HI := Lib.hid hi
  have HJ := Lib.hid hj
  generalize cmpN i.natAbs j.natAbs = cr at *
  clear f1 f2 f3 f4 f5 hs1 hs2 b1 b2 hi hj MAG BY1
  subst hW0
  subst hm1
  subst hm2
  unfold addW at *
  by_cases hss : s1 = s2
  · subst hss
    have C : Hid (∀ W, Below (w.heap.size + 3) _ W → Calls Try.prog 36 #[(.slice a1 k1 c1), (.slice a2 k2 c2)] W fun e w' => ∃ (a : Option Addr) (k c : Nat), e = .returned (.slice a k c) ∧ By w' w'.heap.size (.slice a k c) (i.natAbs + j.natAbs) ∧ Below (w.heap.size + 3) _ w') := Lib.hid SUM.out
    have O : Hid (∀ v W, Below (w.heap.size + 3) _ W → By W W.heap.size v (i.natAbs + j.natAbs) → Calls Try.prog 22 #[.bool s1, v] W fun e w' => ∃ (x : Bool) (a : Option Addr) (k c : Nat), e = .returned (.agg #[.bool x, .slice a k c]) ∧ Sp w' w'.heap.size (.agg #[.bool x, .slice a k c]) (i + j) ∧ Below (w.heap.size + 3) _ w') := Lib.hid (fun v W => OF.out s1 _ v W (by have := HI.out; have := HJ.out; omega) (by
      have h1 := S1.out
      have h2 := S2.out
      cases s1 <;> simp at h1 h2 ⊢ <;> omega))
    go_enter Try.func17, Try.ntmps17
    go_wp2_with fail
    go_region_held3 (fun w' => w'.cell? ⟨w.heap.size, 0, none⟩ = some (.bool s1) ∧ w'.cell? ⟨w.heap.size, 1, none⟩ = some (.slice a1 k1 c1) ∧ w'.cell? ⟨w.heap.size + 1, 1, none⟩ = some (.slice a2 k2 c2)) (refine ⟨?_, ?_, ?_⟩ <;> first | assumption | go_simp) (first | (go_at_call 36; refine (C.out _ (by first | exact HB.out.drew | exact BASE.out)).mono ?_; rintro e w1 ⟨a, k, c, rfl, hby, hbl⟩; obtain ⟨⟨p0, p1, p2, p3⟩, _⟩ := KEEP.out _ hbl; have HY := Lib.hid hby; have HB1 := Lib.hid hbl; clear hby hbl) | (go_at_call 22; refine (O.out _ _ HB1.out HY.out).mono ?_; rintro e w2 ⟨x, a', k', c', rfl, hsp, hbl⟩; obtain ⟨⟨p0, p1, p2, p3⟩, q0, q1, q2, q3⟩ := KEEP.out _ hbl; have HSP := Lib.hid hsp; have HB2 := Lib.hid hbl; clear hsp hbl))
    go_wp2_with fail
    refine bodyPost_ret (v := .agg #[.bool x, .slice a' k' c']) (by simp [results, Try.results17, go_sem, q0, q1]) rfl ?_
    exact FIN.out _ _ _ _ _ HB2.out HSP.out
  · have hse : (s1 == s2) = false := by simpa using hss
    obtain rfl : s2 = !s1 := by cases s1 <;> cases s2 <;> simp_all
    by_cases hle : j.natAbs ≤ i.natAbs
    · have hcr : 0 ≤ cr := hcmp1.out hle
      have C : Hid (∀ W, Below (w.heap.size + 3) _ W → Calls Try.prog 38 #[(.slice a1 k1 c1), (.slice a2 k2 c2)] W fun e w' => ∃ (a : Option Addr) (k c : Nat), e = .returned (.slice a k c) ∧ By w' w'.heap.size (.slice a k c) (i.natAbs - j.natAbs) ∧ Below (w.heap.size + 3) _ w') := Lib.hid (LES1.out hle)
      have O : Hid (∀ v W, Below (w.heap.size + 3) _ W → By W W.heap.size v (i.natAbs - j.natAbs) → Calls Try.prog 22 #[.bool s1, v] W fun e w' => ∃ (x : Bool) (a : Option Addr) (k c : Nat), e = .returned (.agg #[.bool x, .slice a k c]) ∧ Sp w' w'.heap.size (.agg #[.bool x, .slice a k c]) (i + j) ∧ Below (w.heap.size + 3) _ w') := Lib.hid (fun v W => OF.out s1 _ v W (by have := HI.out; have := HJ.out; omega) (by
        have h1 := S1.out
        have h2 := S2.out
        cases s1 <;> simp at h1 h2 ⊢ <;> omega))
      go_enter Try.func17, Try.ntmps17
      go_wp2_with fail
      refine (ORD.out _ BASE0.out).mono ?_
      rintro e w0 ⟨rfl, hb0⟩
      obtain ⟨⟨p0, p1, p2, p3⟩, _⟩ := KEEP.out _ hb0
      have HB := Lib.hid hb0
      clear hb0
      go_wp2_with fail
      go_region_held3 (fun w' => w'.cell? ⟨w.heap.size, 0, none⟩ = some (.bool s1) ∧ w'.cell? ⟨w.heap.size, 1, none⟩ = some (.slice a1 k1 c1) ∧ w'.cell? ⟨w.heap.size + 1, 1, none⟩ = some (.slice a2 k2 c2)) (refine ⟨?_, ?_, ?_⟩ <;> first | assumption | go_simp) (first | (go_at_call 38; refine (C.out _ (by first | exact HB.out.drew | exact BASE.out)).mono ?_; rintro e w1 ⟨a, k, c, rfl, hby, hbl⟩; obtain ⟨⟨p0, p1, p2, p3⟩, _⟩ := KEEP.out _ hbl; have HY := Lib.hid hby; have HB1 := Lib.hid hbl; clear hby hbl) | (go_at_call 22; refine (O.out _ _ HB1.out HY.out).mono ?_; rintro e w2 ⟨x, a', k', c', rfl, hsp, hbl⟩; obtain ⟨⟨p0, p1, p2, p3⟩, q0, q1, q2, q3⟩ := KEEP.out _ hbl; have HSP := Lib.hid hsp; have HB2 := Lib.hid hbl; clear hsp hbl))
      go_wp2_with fail
      refine bodyPost_ret (v := .agg #[.bool x, .slice a' k' c']) (by simp [results, Try.results17, go_sem, q0, q1]) rfl ?_
      exact FIN.out _ _ _ _ _ HB2.out HSP.out
    · have hle2 : i.natAbs ≤ j.natAbs := by omega
      have hcr : ¬ 0 ≤ cr := hcmp2.out hle
      have C : Hid (∀ W, Below (w.heap.size + 3) _ W → Calls Try.prog 38 #[(.slice a2 k2 c2), (.slice a1 k1 c1)] W fun e w' => ∃ (a : Option Addr) (k c : Nat), e = .returned (.slice a k c) ∧ By w' w'.heap.size (.slice a k c) (j.natAbs - i.natAbs) ∧ Below (w.heap.size + 3) _ w') := Lib.hid (LES2.out hle2)
      have O : Hid (∀ v W, Below (w.heap.size + 3) _ W → By W W.heap.size v (j.natAbs - i.natAbs) → Calls Try.prog 22 #[.bool (!s1), v] W fun e w' => ∃ (x : Bool) (a : Option Addr) (k c : Nat), e = .returned (.agg #[.bool x, .slice a k c]) ∧ Sp w' w'.heap.size (.agg #[.bool x, .slice a k c]) (i + j) ∧ Below (w.heap.size + 3) _ w') := Lib.hid (fun v W => OF.out (!s1) _ v W (by have := HI.out; have := HJ.out; omega) (by
        have h1 := S1.out
        have h2 := S2.out
        cases s1 <;> simp at h1 h2 ⊢ <;> omega))
      go_enter Try.func17, Try.ntmps17
      go_wp2_with fail
      refine (ORD.out _ BASE0.out).mono ?_
      rintro e w0 ⟨rfl, hb0⟩
      obtain ⟨⟨p0, p1, p2, p3⟩, _⟩ := KEEP.out _ hb0
      have HB := Lib.hid hb0
      clear hb0
      go_wp2_with fail
      go_region_held3 (fun w' => w'.cell? ⟨w.heap.size + 1, 0, none⟩ = some (.bool (!s1)) ∧ w'.cell? ⟨w.heap.size, 1, none⟩ = some (.slice a1 k1 c1) ∧ w'.cell? ⟨w.heap.size + 1, 1, none⟩ = some (.slice a2 k2 c2)) (refine ⟨?_, ?_, ?_⟩ <;> first | assumption | go_simp) (first | (go_at_call 38; refine (C.out _ (by first | exact HB.out.drew | exact BASE.out)).mono ?_; rintro e w1 ⟨a, k, c, rfl, hby, hbl⟩; obtain ⟨⟨p0, p1, p2, p3⟩, _⟩ := KEEP.out _ hbl; have HY := Lib.hid hby; have HB1 := Lib.hid hbl; clear hby hbl) | (go_at_call 22; refine (O.out _ _ HB1.out HY.out).mono ?_; rintro e w2 ⟨x, a', k', c', rfl, hsp, hbl⟩; obtain ⟨⟨p0, p1, p2, p3⟩, q0, q1, q2, q3⟩ := KEEP.out _ hbl; have HSP := Lib.hid hsp; have HB2 := Lib.hid hbl; clear hsp hbl))
      go_wp2_with fail
      refine bodyPost_ret (v := .agg #[.bool x, .slice a' k' c']) (by simp [results, Try.results17, go_sem, q0, q1]) rfl ?_
      exact FIN.out _ _ _ _ _ HB2.out HSP.out
end Go.Proofs.Ythnmkbdeoahiaaa
