/- What two integers of the package are while a third one is reckoned of them: the words for the walks of (starlark.Int).Add and its kin. -/
import Derived.Test.YtpcnmgldmnncoaaGreatDoorMWhole
import Derived.Test.YtpcnmgldmnncoaaGreatDoorMNew
namespace Go.Proofs.YtpcnmgldmnncoaaGreatDoor
open Go.RowKit Dig
set_option linter.unusedVariables false
set_option linter.unusedSimpArgs false
set_option maxRecDepth 100000

/-- a pointer to an integer, in a block below B or made by the call -/
def BgNew (i : Int) (B : Nat) (w : World) (e : Ending) (w' : World) : Prop :=
  ∃ b, e = .returned (.pointer (some ⟨b, 0, none⟩)) ∧ (b < B ∨ w.heap.size ≤ b) ∧ Bg w' w'.heap.size (some ⟨b, 0, none⟩) i ∧ Below w.heap.size w w'
set_option maxHeartbeats 400000 in
theorem newInt_new (n : Int) (B : Nat) (w : World) (h1 : -9223372036854775808 ≤ n) (h2 : n ≤ 9223372036854775807) : Calls Tryz.prog 47 #[.int .i64 n] w (BgNew n B w) := by
  rcases Int.lt_trichotomy n 0 with hn | hn | hn
  · have e1 : IntKind.u64.wrap (-IntKind.u64.wrap n) = ((n.natAbs : Nat) : Int) := by rw [IntKind.wrap_u64, IntKind.wrap_u64]; omega
    have e2 : (true : Bool) = decide (n < 0) := by simpa using hn
    have FIN := Lib.hid (Bg.one w 79 n.natAbs n rfl (rep_one n.natAbs (by omega) (by omega)))
    have E1 := Lib.hid e1; clear e1
    have E2 := Lib.hid e2; clear e2
    have hn' : (n == 0) = false := by simp; omega
    go_enter Tryz.func47, Tryz.ntmps47
    go_wp2
    go_ret
    refine ⟨_, rfl, .inr (by omega), ?_, ((Below.refl _ _).alloc (Nat.le_refl _) _).alloc (by simp) _⟩
    have h := FIN.out
    rw [← E2.out] at h
    rw [E1.out]
    simpa [wv] using h
  · subst hn
    have FIN := Lib.hid (Bg.none_ w 0 rfl)
    go_enter Tryz.func47, Tryz.ntmps47
    go_wp2
    go_ret
    exact ⟨_, rfl, .inr (Nat.le_refl _), by simpa using FIN.out, (Below.refl _ _).alloc (Nat.le_refl _) _⟩
  · obtain ⟨m, rfl⟩ := Int.eq_ofNat_of_zero_le (show 0 ≤ n by omega)
    have FIN := Lib.hid (Bg.one w 79 m m rfl (rep_one m (by omega) (by omega)))
    have hn' : ((m : Int) == 0) = false := by simp; omega
    go_enter Tryz.func47, Tryz.ntmps47
    go_wp2
    go_ret
    refine ⟨_, rfl, .inr (by omega), ?_, ((Below.refl _ _).alloc (Nat.le_refl _) _).alloc (by simp) _⟩
    simpa [wv] using FIN.out
set_option maxHeartbeats 800000 in
theorem bigInt_new (v : Value) (i : Int) (B : Nat) (w : World) (hv : In w B v i) (hB : B ≤ w.heap.size) : Calls Tryz.prog 34 #[v] w (BgNew i B w) := by
  obtain ⟨s, p, rfl, h⟩ := hv
  rcases h with ⟨rfl, rfl, h1, h2⟩ | ⟨rfl, h1, h2⟩
  · go_enter Tryz.func34, Tryz.ntmps34
    go_wp2_with fail
    refine (get_any _ _ _).mono ?_
    rintro e w1 ⟨rfl, h1⟩
    have H1 := Lib.hid h1; clear h1
    go_wp2_with fail
    refine (newInt_new _ B _ (by omega) (by omega)).mono ?_
    rintro e w2 ⟨b, rfl, hn, hb, hw⟩
    have HB := Lib.hid hb
    have HW := Lib.hid hw
    have HN : Hid (b < B ∨ w.heap.size ≤ b) := Lib.hid (by have := H1.out.size; simp at this; omega)
    clear hb hw hn
    go_wp2_with fail
    go_ret
    have hb := ((Below.refl w.heap.size w).alloc (Nat.le_refl _) (.cells #[.int .i64 s, .pointer none] 44)).trans (H1.out.mono (by simp))
    exact ⟨b, rfl, HN.out, HB.out, hb.trans (HW.out.mono hb.size)⟩
  · obtain ⟨b, abs, rfl, hb, hk, hn⟩ := id h2
    have H2 := Lib.hid (h2.more hB)
    have HN := Lib.hid hb
    clear hb hk hn h2
    go_enter Tryz.func34, Tryz.ntmps34
    go_wp2_with fail
    refine (get_any _ _ _).mono ?_
    rintro e w1 ⟨rfl, h1⟩
    have hb1 : Below w.heap.size w w1 := ((Below.refl w.heap.size w).alloc (Nat.le_refl _) (.cells #[.int .i64 0, .pointer (some ⟨b, 0, none⟩)] 44)).trans (h1.mono (by simp))
    have HB1 := Lib.hid hb1
    clear h1 hb1
    go_wp2_with fail
    go_ret
    exact ⟨b, rfl, .inl HN.out, (H2.out.below HB1.out).more HB1.out.size, HB1.out⟩

theorem In.cases2 {w : World} {B : Nat} {s : Int} {q : Option Addr} {i : Int} (h : In w B (.agg #[.int .i64 s, .pointer q]) i) : (q = none ∧ s = i ∧ -2147483648 ≤ i ∧ i ≤ 2147483647) ∨ (∃ b, q = some ⟨b, 0, none⟩) := by
  obtain ⟨s', q', hv, h⟩ := h
  simp only [Value.agg.injEq, Array.mk.injEq, List.cons.injEq, Value.int.injEq, true_and, Value.pointer.injEq, and_true] at hv
  obtain ⟨rfl, rfl⟩ := hv
  rcases h with h | ⟨_, _, b, _, hb, _⟩
  · exact .inl h
  · exact .inr ⟨b, hb⟩
/-- what has been brought about: a fresh integer z, the two operands' pointers b1, b2 -/
def St (W0 : World) (h : Nat) (i j : Int) (oz o1 o2 : Option Nat) (W : World) : Prop :=
  Below h W0 W ∧ h ≤ W.heap.size ∧ (∀ z, oz = some z → h ≤ z ∧ Blk W z 55 [.bool false, .slice none 0 0]) ∧
  (∀ b, o1 = some b → Bg W W.heap.size (some ⟨b, 0, none⟩) i ∧ ∀ z, oz = some z → b ≠ z) ∧ (∀ b, o2 = some b → Bg W W.heap.size (some ⟨b, 0, none⟩) j ∧ ∀ z, oz = some z → b ≠ z)
section
variable {W0 W : World} {h : Nat} {i j : Int} {oz o1 o2 : Option Nat}
theorem St.below (s : St W0 h i j oz o1 o2 W) : Below h W0 W := s.1
theorem St.drew (s : St W0 h i j oz o1 o2 W) : St W0 h i j oz o1 o2 W.drew := ⟨s.1.drew, s.2.1, s.2.2.1, s.2.2.2.1, s.2.2.2.2⟩
theorem St.start (hh : h ≤ W.heap.size) (hb : Below h W0 W) : St W0 h i j none none none W := ⟨hb, hh, by simp, by simp, by simp⟩
theorem Bg.lt {w : World} {B b : Nat} {i : Int} (h : Bg w B (some ⟨b, 0, none⟩) i) : b < w.heap.size := by
  obtain ⟨b', abs, hb, _, hk, _⟩ := h
  injection hb with hb; injection hb with hb
  subst hb; exact hk.lt
theorem St.alloc (s : St W0 h i j none o1 o2 W) : St W0 h i j (some W.heap.size) o1 o2 (W.alloc (.cells #[.bool false, .slice none 0 0] 55)) := by
  obtain ⟨h1, h2, _, h4, h5⟩ := s
  have hb : Below W.heap.size W (W.alloc (.cells #[.bool false, .slice none 0 0] 55)) := (Below.refl _ _).alloc (Nat.le_refl _) _
  refine ⟨h1.trans (hb.mono h2), Nat.le_trans h2 hb.size, ?_, ?_, ?_⟩
  · intro z hz; injection hz with hz; subst hz
    exact ⟨h2, Blk.new W 55 [.bool false, .slice none 0 0]⟩
  · intro b hb1
    have := (h4 b hb1).1
    refine ⟨(this.below hb).more hb.size, fun z hz => ?_⟩
    injection hz with hz
    have := this.lt
    omega
  · intro b hb1
    have := (h5 b hb1).1
    refine ⟨(this.below hb).more hb.size, fun z hz => ?_⟩
    injection hz with hz
    have := this.lt
    omega
theorem St.big1 {v : Value} {B : Nat} {w : World} (s : St W0 h i j oz none o2 W) (hv : In w B v i) (hw : Below B w W0) (hB : B ≤ h) :
    Calls Tryz.prog 34 #[v] W fun e w' => ∃ b, e = .returned (.pointer (some ⟨b, 0, none⟩)) ∧ St W0 h i j oz (some b) o2 w' := by
  obtain ⟨h1, h2, h3, h4, h5⟩ := s
  refine (bigInt_new v i B W (hv.below (hw.trans (h1.mono hB))) (Nat.le_trans hB h2)).mono ?_
  rintro e w' ⟨b, rfl, hn, hbg, hb⟩
  refine ⟨b, rfl, h1.trans (hb.mono h2), Nat.le_trans h2 hb.size, ?_, ?_, ?_⟩
  · intro z hz
    obtain ⟨g1, g2⟩ := h3 z hz
    exact ⟨g1, g2.below hb g2.lt⟩
  · intro b' hb'
    injection hb' with hb'
    subst hb'
    refine ⟨hbg, fun z hz => ?_⟩
    obtain ⟨g1, g2⟩ := h3 z hz
    have := g2.lt
    omega
  · intro b' hb'
    obtain ⟨g1, g2⟩ := h5 b' hb'
    exact ⟨(g1.below hb).more hb.size, g2⟩
theorem St.big2 {v : Value} {B : Nat} {w : World} (s : St W0 h i j oz o1 none W) (hv : In w B v j) (hw : Below B w W0) (hB : B ≤ h) :
    Calls Tryz.prog 34 #[v] W fun e w' => ∃ b, e = .returned (.pointer (some ⟨b, 0, none⟩)) ∧ St W0 h i j oz o1 (some b) w' := by
  obtain ⟨h1, h2, h3, h4, h5⟩ := s
  refine (bigInt_new v j B W (hv.below (hw.trans (h1.mono hB))) (Nat.le_trans hB h2)).mono ?_
  rintro e w' ⟨b, rfl, hn, hbg, hb⟩
  refine ⟨b, rfl, h1.trans (hb.mono h2), Nat.le_trans h2 hb.size, ?_, ?_, ?_⟩
  · intro z hz
    obtain ⟨g1, g2⟩ := h3 z hz
    exact ⟨g1, g2.below hb g2.lt⟩
  · intro b' hb'
    obtain ⟨g1, g2⟩ := h4 b' hb'
    exact ⟨(g1.below hb).more hb.size, g2⟩
  · intro b' hb'
    injection hb' with hb'
    subst hb'
    refine ⟨hbg, fun z hz => ?_⟩
    obtain ⟨g1, g2⟩ := h3 z hz
    have := g2.lt
    omega
/-- an operation of big integers that lays its result into z -/
theorem St.op {z b1 b2 : Nat} {k : Int} {f : FuncId} (s : St W0 h i j (some z) (some b1) (some b2) W)
    (C : ∀ (z : Nat) (p q : Option Addr) (w : World), Blk w z 55 [.bool false, .slice none 0 0] → Bg w w.heap.size p i → Bg w w.heap.size q j → p ≠ some ⟨z, 0, none⟩ → q ≠ some ⟨z, 0, none⟩ → Calls Tryz.prog f #[.pointer (some ⟨z, 0, none⟩), .pointer p, .pointer q] w (PutPost z k w)) :
    Calls Tryz.prog f #[.pointer (some ⟨z, 0, none⟩), .pointer (some ⟨b1, 0, none⟩), .pointer (some ⟨b2, 0, none⟩)] W fun e w' => e = .returned (.pointer (some ⟨z, 0, none⟩)) ∧ Bg w' w'.heap.size (some ⟨z, 0, none⟩) k ∧ Below h W0 w' := by
  obtain ⟨h1, h2, h3, h4, h5⟩ := s
  obtain ⟨g1, g2⟩ := h3 z rfl
  obtain ⟨p1, p2⟩ := h4 b1 rfl
  obtain ⟨q1, q2⟩ := h5 b2 rfl
  refine (C z _ _ W g2 p1 q1 (fun e => p2 z rfl (by injection e with e; injection e)) (fun e => q2 z rfl (by injection e with e; injection e))).mono ?_
  rintro e w' ⟨rfl, hb, hu⟩
  exact ⟨rfl, hb, h1.trans (hu.below h2 (fun k hk => by injection hk with hk; omega))⟩
end
end Go.Proofs.YtpcnmgldmnncoaaGreatDoor
