/- (nat).div: the division of nats; the quotient and the rest are of one's own. (nat).div: the division of nats; the quotient and the rest are of one's own. -/
import Derived.Test.YtpcnmgldmnncoaaGreatDoorMVec2
import Derived.Test.YtpcnmgldmnncoaaGreatDoorMDivRow
import Derived.Test.YtpcnmgldmnncoaaGreatDoorCmp
import Derived.Test.YtpcnmgldmnncoaaGreatDoorDivLarge
import Derived.Test.YtpcnmgldmnncoaaGreatDoorMMath
namespace Go.Proofs.YtpcnmgldmnncoaaGreatDoor
open Go.RowKit Dig
set_option linter.unusedVariables false
set_option linter.unusedSimpArgs false
set_option maxRecDepth 100000

theorem set_empty (a : Option Addr) (c : Nat) (w : World) : Calls Tryz.prog 57 #[.slice none 0 0, .slice a 0 c] w fun e w' => e = .returned (.slice none 0 0) ∧ w = w' := by
  go_enter Tryz.func57, Tryz.ntmps57
  go_wp2_with fail
  refine (make_zero _).mono ?_
  rintro e w' ⟨rfl, rfl⟩
  go_wp2_with (with_reducible refine wpList_copy_nothing rfl (.tmp 9) (.tmp 10) 53 53 rfl 79 Tryz.underlying53 (by kernel_rfl) _ _ _ _ _ _ rfl rfl rfl ?_)
  go_wp2
  go_ret
  exact ⟨rfl, rfl⟩
theorem rep_nil_zero {X : Nat} {xs : List Nat} (rx : Rep 18446744073709551616 xs X) (h : xs.length = 0) : X = 0 := (rx.pos_iff (by omega)).1 (List.length_eq_zero_iff.1 h)
/-- set with a nil receiver: a copy of one's own -/
theorem setNil_own (X : Nat) (x : Value) (w : World) (hx : Nt w w.heap.size x X) (hX : X < lim) : Calls Tryz.prog 57 #[.slice none 0 0, x] w (OwPost w.heap.size X w) := by
  obtain ⟨xs, rx, hs⟩ := hx
  have hw := rx.words_le hX
  by_cases h0 : xs.length = 0
  · obtain rfl := rep_nil_zero rx h0
    obtain ⟨a, c, rfl, hc, hr⟩ := hs
    rw [List.length_map, h0]
    refine (set_empty a c w).mono ?_
    rintro e w' ⟨rfl, rfl⟩
    exact ⟨_, rfl, Ow.zero _ _, Below.refl _ _⟩
  · exact set_own xs X w.heap.size w.heap.size none 0 0 x w (.inl ⟨rfl, rfl⟩) (fun _ => rfl) (by omega) (Nat.le_refl _) (Nat.le_refl _) hs rx (by omega) (by omega)
/-- a quotient of one's own and a word left -/
def DivWOwn (Q R : Nat) (w : World) (e : Ending) (w' : World) : Prop := ∃ v, e = .returned (.tuple #[v, .int .u64 (R : Int)]) ∧ Ow w' w.heap.size v Q ∧ Below w.heap.size w w'
set_option maxHeartbeats 1600000 in
theorem divW_own (m y : Nat) (x : Value) (w : World) (hx : Nt w w.heap.size x m) (hm : m < lim) (hy0 : 0 < y) (hy : y < 18446744073709551616) :
    Calls Tryz.prog 60 #[.slice none 0 0, x, .int .u64 (y : Int)] w (DivWOwn (m / y) (m % y) w) := by
  have CS := Lib.hid (setNil_own m x w hx hm)
  obtain ⟨xs, rx, hs⟩ := hx
  have hw := rx.words_le hm
  obtain ⟨a, c, rfl, hc, hr⟩ := id hs
  rw [List.length_map] at hs hc CS ⊢
  obtain ⟨n, hn⟩ : ∃ n, n = xs.length := ⟨_, rfl⟩
  by_cases hy1 : y = 1
  · subst hy1
    rw [Nat.div_one, Nat.mod_one]
    clear hs hr rx hc hw hn
    generalize xs.length = k at *
    go_enter Tryz.func60, Tryz.ntmps60
    go_wp2_with fail
    with_reducible refine CS.out.mono ?_
    rintro e w1 ⟨v, rfl, h1, h2⟩
    have H1 := Lib.hid h1
    have H2 := Lib.hid h2
    clear h1 h2
    go_wp2_with fail
    go_ret2
    exact ⟨_, rfl, H1.out, H2.out⟩
  · have hy1' : ((y : Int) == 1) = false := by rw [beq_eq_false_iff_ne]; omega
    have hy0' : ((y : Int) == 0) = false := by rw [beq_eq_false_iff_ne]; omega
    by_cases h0 : n = 0
    · have hm0 : m = 0 := (rx.pos_iff (by omega)).1 (List.length_eq_zero_iff.1 (by omega))
      subst hm0
      rw [← hn, h0, Nat.zero_div, Nat.zero_mod]
      clear hs hr rx hc hw hn h0 CS
      go_enter Tryz.func60, Tryz.ntmps60
      go_wp2_with fail
      go_ret2
      exact ⟨_, rfl, Ow.zero _ _, Below.refl _ _⟩
    · rw [← hn] at hs ⊢
      have hn0 : ((n : Int) == 0) = false := by rw [beq_eq_false_iff_ne]; omega
      have CM := Lib.hid (make_any n w (by omega) (by omega))
      have QD : Hid (∀ c2 w1, n ≤ c2 → c2 ≤ n + 4 → w1 = w.alloc (.cells (zs (.int .u64 0) c2).toArray 79) → Calls Tryz.prog 74 #[.slice (some ⟨w.heap.size, 0, none⟩) n c2, .int .u64 0, .slice a n c, .int .u64 (y : Int)] w1 fun e w' => e = .returned (.int .u64 ((m % y : Nat) : Int)) ∧ Below w.heap.size w w' ∧ Calls Tryz.prog 56 #[.slice (some ⟨w.heap.size, 0, none⟩) n c2] w' fun e w'' => ∃ v, e = .returned v ∧ Ow w'' w.heap.size v (m / y) ∧ w' = w'') := Lib.hid (by
        rintro c2 w1 hc2 hc3 rfl
        have hb1 : Below w.heap.size w (w.alloc (.cells (zs (.int .u64 0) c2).toArray 79)) := (Below.refl _ _).alloc (Nat.le_refl _) _
        have h := divWVW_any xs y (zs (.int .u64 0) c2) w.heap.size 0 n c2 w.heap.size (.slice a n c) _ (hs.below hb1) hn.symm (by omega) rx.lt hy0 hy (Nat.le_refl _) (by simp) (Blk.new w 79 (zs (.int .u64 0) c2)) (by rw [zs_length]; omega) (by omega)
        rw [rx.val] at h
        refine h.mono ?_
        rintro e w' ⟨rfl, h1, h2⟩
        refine ⟨rfl, hb1.trans (h2.below (by simp) (fun k hk => by injection hk with hk; omega)), ?_⟩
        have hlt := rx.val_lt
        rw [← hn] at hlt
        have hN := norm_any (dgs 18446744073709551616 n (m / y)) (some ⟨w.heap.size, 0, none⟩) c2 _ w' (Ow.sl_row h1 (zs_length _ _) (by omega)) (dgs_lt _ (by omega) _ _) (by rw [dgs_length]; omega)
        rw [dgs_length] at hN
        refine hN.mono ?_
        rintro e w'' ⟨rfl, rfl⟩
        exact ⟨_, rfl, Ow.of_row h1 (zs_length _ _) (by omega) (by omega) (by omega) (Nat.lt_of_le_of_lt (Nat.div_le_self _ _) hlt) (Nat.le_refl _), rfl⟩)
      clear hs hr rx hc hw hn h0 hm CS
      generalize m / y = Q at *
      generalize m % y = R at *
      go_enter Tryz.func60, Tryz.ntmps60
      go_wp2_with fail
      with_reducible refine CM.out.mono ?_
      rintro e w1 ⟨c2, hc2, hc3, rfl, hw1⟩
      have C2 := Lib.hid (QD.out c2 w1 (by omega) hc3 hw1)
      clear hw1 QD CM
      go_wp2_with fail
      with_reducible refine C2.out.mono ?_
      rintro e w2 ⟨rfl, hb, hn⟩
      have HB := Lib.hid hb
      have HN := Lib.hid hn
      clear hb hn
      go_wp2_with fail
      with_reducible refine HN.out.mono ?_
      rintro e w3 ⟨v, rfl, h1, rfl⟩
      have H1 := Lib.hid h1
      clear h1
      go_wp2_with fail
      go_ret2
      exact ⟨_, rfl, H1.out, HB.out⟩
end Go.Proofs.YtpcnmgldmnncoaaGreatDoor

namespace Go.Proofs.YtpcnmgldmnncoaaGreatDoor
open Go.RowKit Dig
set_option linter.unusedVariables false
set_option linter.unusedSimpArgs false
set_option maxRecDepth 100000

theorem setWord_own (m : Nat) (w : World) (hm : m < 18446744073709551616) : Calls Tryz.prog 61 #[.slice none 0 0, .int .u64 (m : Int)] w (OwPost w.heap.size m w) := by
  by_cases h0 : m = 0
  · subst h0
    refine (setWord_zero none 0 0 w).mono ?_
    rintro e w' ⟨rfl, rfl⟩
    exact ⟨_, rfl, Ow.zero _ _, Below.refl _ _⟩
  · refine (setWordN_any m w h0 hm).mono ?_
    rintro e w' ⟨c, L, h1, h2, h3, h4, rfl, rfl⟩
    have hk := Blk.new w 79 L
    refine ⟨_, rfl, ⟨_, 1, c, [m], rfl, ⟨by simpa using hm, by simp [nval], by simp [Nrm]; exact h0⟩, rfl, h1, by omega, .inr ⟨_, L, rfl, Nat.le_refl _, ⟨h3, by omega⟩, hk, ?_⟩⟩, (Below.refl _ _).alloc (Nat.le_refl _) _⟩
    obtain ⟨v, L', rfl⟩ : ∃ v L', L = v :: L' := by
      rcases L with _ | ⟨v, L'⟩
      · simp at h3; omega
      · exact ⟨v, L', rfl⟩
    simp at h4
    simp [h4, wv]
/-- what a division leaves -/
def DivPost (Q R : Nat) (w : World) (e : Ending) (w' : World) : Prop := ∃ q r, e = .returned (.tuple #[q, r]) ∧ Ow w' w.heap.size q Q ∧ Ow w' w.heap.size r R ∧ Below w.heap.size w w'
set_option maxHeartbeats 3200000 in
theorem natDiv_any (X0 V0 : Nat) (x y : Value) (w : World) (hx : Nt w w.heap.size x X0) (hy : Nt w w.heap.size y V0) (hX : X0 < lim) (hV0 : 0 < V0) (hV : V0 < 18446744073709551616 ^ 39)
    (hgl : 0 < w.heap.size) (hthr : w.cell? ⟨0, 0, none⟩ = some (.int .i64 40)) :
    Calls Tryz.prog 49 #[.slice none 0 0, .pointer none, .slice none 0 0, x, y] w (DivPost (X0 / V0) (X0 % V0) w) := by
  have hVl : V0 < lim := Nat.lt_of_lt_of_le hV (pow_le_lim 39 (by omega))
  have CDW := Lib.hid (fun y0 (h0 : 0 < y0) (h1 : y0 < 18446744073709551616) => divW_own X0 y0 x w hx hX h0 h1)
  have CCM := Lib.hid (natCmp_any X0 V0 x y w hx hy hX hVl)
  have CST : Hid (∀ q, Calls Tryz.prog 57 #[.slice none 0 0, x] (w.drewN q) (OwPost (w.drewN q).heap.size X0 (w.drewN q))) := Lib.hid (fun q => setNil_own X0 x (w.drewN q) (hx.drewN q) hX)
  obtain ⟨xs, rx, hxs⟩ := id hx
  obtain ⟨ys, ry, hys⟩ := id hy
  have lx := rx.words_le hX
  have ly := ry.length_le (by omega) hV
  have ly0 : 0 < ys.length := by
    rcases Nat.eq_zero_or_pos ys.length with h | h
    · have := rep_nil_zero ry h; omega
    · exact h
  by_cases h1 : ys.length = 1
  · obtain ⟨y0, rfl⟩ := List.length_eq_one_iff.1 h1
    have hv0 : V0 = y0 := by rw [← ry.val]; simp [nval]
    subst hv0
    obtain ⟨a2, c2, rfl, hc2, hr2⟩ := id hys
    simp only [List.length_map, List.length_singleton] at hys hc2 CCM ⊢
    obtain ⟨b2, o2, rfl, hb2, hnn, q2⟩ := hys.word 0 (by simp)
    obtain ⟨a1, c1, rfl, hc1, hr1⟩ := id hxs
    simp only [List.length_map] at hc1 CDW ⊢
    have hy0 : V0 < 18446744073709551616 := ry.lt V0 (by simp)
    rw [show ([V0].getD 0 0) = V0 from rfl, Nat.add_zero] at q2
    have C1 := Lib.hid (CDW.out V0 hV0 hy0)
    have C2 := Lib.hid (fun W => setWord_own (X0 % V0) W (Nat.lt_trans (Nat.mod_lt _ hV0) hy0))
    have lq := lt_of_cell q2
    clear hnn CDW CCM CST hx hy hr1 hr2 rx ry hxs hys hVl hX hV h1 ly ly0 lx
    generalize X0 / V0 = Q at *
    generalize X0 % V0 = R at *
    generalize xs.length = n1 at *
    go_enter Tryz.func49, Tryz.ntmps49
    go_wp2_with fail
    with_reducible refine C1.out.mono ?_
    rintro e w1 ⟨v, rfl, k1, k2⟩
    have K1 := Lib.hid k1
    have K2 := Lib.hid k2
    clear k1 k2 C1
    go_wp2_with fail
    with_reducible refine (C2.out _).mono ?_
    rintro e w2 ⟨v2, rfl, k3, k4⟩
    have K3 := Lib.hid k3
    have K4 := Lib.hid k4
    clear k3 k4 C2
    go_wp2_with fail
    go_ret2
    exact ⟨_, _, rfl, K1.out.below K4.out, K3.out.mono K2.out.size, K2.out.trans (K4.out.mono K2.out.size)⟩
  · have hlt2 : 2 ≤ ys.length := by omega
    by_cases hlt : X0 < V0
    · rw [Nat.div_eq_of_lt hlt, Nat.mod_eq_of_lt hlt]
      rw [cmpN_lt hlt] at CCM
      obtain ⟨a1, c1, rfl, hc1, hr1⟩ := id hxs
      obtain ⟨a2, c2, rfl, hc2, hr2⟩ := id hys
      simp only [List.length_map] at CCM CST ⊢
      obtain ⟨n2, hn2⟩ : ∃ n2, n2 = ys.length := ⟨_, rfl⟩
      rw [← hn2] at CCM hlt2 ⊢
      have g1 : ((n2 : Int) == 0) = false := by rw [beq_eq_false_iff_ne]; omega
      have g2 : ((n2 : Int) == 1) = false := by rw [beq_eq_false_iff_ne]; omega
      generalize xs.length = n1 at *
      clear CDW hx hy hr1 hr2 rx ry hxs hys hVl hX hV h1 ly0 lx hn2 hc1 hc2 hlt ly
      go_enter Tryz.func49, Tryz.ntmps49
      go_wp2_with fail
      with_reducible refine CCM.out.mono ?_
      rintro e w1 ⟨rfl, q1, rfl⟩
      clear CCM
      go_wp2_with fail
      with_reducible refine (CST.out _).mono ?_
      rintro e w2 ⟨v2, rfl, k3, k4⟩
      have K3 := Lib.hid k3
      have K4 := Lib.hid k4
      clear k3 k4 CST
      go_wp2_with fail
      go_ret2
      exact ⟨_, _, rfl, Ow.zero _ _, K3.out, (below_drewN (Below.refl _ _) q1).trans K4.out⟩
    · have hlen : ys.length ≤ xs.length := by
        rcases Nat.lt_or_ge xs.length ys.length with h | h
        · exfalso; exact hlt (Rep.len_lt (by omega) rx ry h)
        · exact h
      have hcc : cmpN X0 V0 = 0 ∨ cmpN X0 V0 = 1 := by
        rcases Nat.lt_or_ge V0 X0 with h | h
        · exact .inr (cmpN_gt h)
        · have : V0 = X0 := by omega
          subst this; exact .inl (cmpN_eq _)
      have CGS := Lib.hid (fun W => getStack_any W)
      have CDL : Hid (∀ q, Calls Tryz.prog 64 #[.slice none 0 0, .pointer (some ⟨w.heap.size, 0, none⟩), .slice none 0 0, x, y] ((w.drewN q).alloc (.cells #[.pointer none] 99)) (DlPost w.heap.size w.heap.size (X0 / V0) (X0 % V0) ((w.drewN q).alloc (.cells #[.pointer none] 99)))) := Lib.hid (fun q => by
        have hb : Below w.heap.size w ((w.drewN q).alloc (.cells #[.pointer none] 99)) := (below_drewN (Below.refl _ _) q).alloc (Nat.le_refl _) _
        exact divLarge_any xs ys X0 V0 w.heap.size w.heap.size x y _ rx ry (hxs.below hb) (hys.below hb) ⟨Nat.le_refl _, .inl ⟨Blk.new (w.drewN q) _ _, rfl, rfl⟩⟩ hb.size hlt2 hlen (by omega) (by omega) hgl ((hb.cell (p := ⟨0, 0, none⟩) hgl).trans hthr))
      obtain ⟨a1, c1, rfl, hc1, hr1⟩ := id hxs
      obtain ⟨a2, c2, rfl, hc2, hr2⟩ := id hys
      simp only [List.length_map] at CCM CDL ⊢
      obtain ⟨n2, hn2⟩ : ∃ n2, n2 = ys.length := ⟨_, rfl⟩
      rw [← hn2] at CCM CDL hlt2 ⊢
      have g1 : ((n2 : Int) == 0) = false := by rw [beq_eq_false_iff_ne]; omega
      have g2 : ((n2 : Int) == 1) = false := by rw [beq_eq_false_iff_ne]; omega
      have g3 : ¬ cmpN X0 V0 < 0 := by rcases hcc with h | h <;> rw [h] <;> omega
      generalize xs.length = n1 at *
      generalize cmpN X0 V0 = cm at *
      clear CDW CST hx hy hr1 hr2 rx ry hxs hys hVl hX hV h1 ly0 lx hn2 hc1 hc2 hlt ly hlen hcc
      generalize X0 / V0 = Q at *
      generalize X0 % V0 = R at *
      go_enter_defers Tryz.func49, Tryz.ntmps49
      go_wp2_with fail
      with_reducible refine CCM.out.mono ?_
      rintro e w1 ⟨rfl, q1, rfl⟩
      clear CCM
      go_wp2_with fail
      with_reducible refine (CGS.out _).mono ?_
      rintro e w2 ⟨rfl, rfl⟩
      clear CGS
      go_wp2_with fail
      with_reducible refine (CDL.out _).mono ?_
      rintro e w3 ⟨qv, rv, rfl, k1, k2, ⟨l', og', k3⟩, k4⟩
      have K1 := Lib.hid k1
      have K2 := Lib.hid k2
      have K3 := Lib.hid k3
      have K4 := Lib.hid k4
      clear k1 k2 k3 k4 CDL
      go_wp2_with fail
      refine leaves_cons (f := 63) (args := #[.pointer (some ⟨w.heap.size, 0, none⟩)]) (by simp) (by kernel_rfl) ?_
      refine (free_deferred .returning _ w.heap.size w.heap.size l' og' K3.out).mono ?_
      rintro e u' w'' ⟨rfl, rfl, m1, m2⟩
      refine ⟨.tuple #[qv, rv], ?_, _, _, rfl, K1.out.rows m2, K2.out.rows m2, (((below_drewN (Below.refl _ _) q1).alloc (Nat.le_refl _) _).trans K4.out).trans m1⟩
      simp [results, Tryz.results49, go_sem]
end Go.Proofs.YtpcnmgldmnncoaaGreatDoor
