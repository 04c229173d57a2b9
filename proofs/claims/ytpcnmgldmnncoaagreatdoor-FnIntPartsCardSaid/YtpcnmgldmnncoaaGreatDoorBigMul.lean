/- (*Int).Mul: the product of two numbers behind different pointers. -/
import Derived.Test.YtpcnmgldmnncoaaGreatDoorNatMul
import Derived.Test.YtpcnmgldmnncoaaGreatDoorBackOps
import Derived.Test.YtpcnmgldmnncoaaGreatDoorMVec2
import Derived.Test.YtpcnmgldmnncoaaGreatDoorMNew
import Derived.BigRegion
namespace Go.Proofs.YtpcnmgldmnncoaaGreatDoor
open Go.RowKit Dig
set_option linter.unusedVariables false
set_option linter.unusedSimpArgs false
set_option maxRecDepth 100000

theorem mul_neg_iff (i j : Int) : decide (i * j < 0) = (decide (0 < i.natAbs * j.natAbs) && (decide (i < 0) != decide (j < 0))) := by
  rcases Int.lt_trichotomy i 0 with h1 | h1 | h1 <;> rcases Int.lt_trichotomy j 0 with h2 | h2 | h2
  · have h3 := Int.mul_pos_of_neg_of_neg h1 h2
    rw [decide_eq_false (by omega), decide_eq_true h1, decide_eq_true h2]; simp
  · subst h2; simp
  · have h3 := Int.mul_neg_of_neg_of_pos h1 h2
    rw [decide_eq_true h3, decide_eq_true h1, decide_eq_false (show ¬ j < 0 by omega), decide_eq_true (Nat.mul_pos (by omega) (by omega))]; rfl
  · subst h1; simp
  · subst h1; simp
  · subst h1; simp
  · have h3 := Int.mul_neg_of_pos_of_neg h1 h2
    rw [decide_eq_true h3, decide_eq_false (show ¬ i < 0 by omega), decide_eq_true h2, decide_eq_true (Nat.mul_pos (by omega) (by omega))]; rfl
  · subst h2; simp
  · have h3 := Int.mul_pos h1 h2
    rw [decide_eq_false (by omega), decide_eq_false (show ¬ i < 0 by omega), decide_eq_false (show ¬ j < 0 by omega)]; simp
theorem infoIsz : ∃ i, Tryz.prog.info? 55 = some i ∧ i.size ≠ 0 := by
  obtain ⟨i, hi, hs⟩ := Option.map_eq_some_iff.1 (show (Tryz.prog.info? 55).map (·.size) = some 2 by kernel_rfl)
  exact ⟨i, hi, by omega⟩
set_option maxHeartbeats 3200000 in
theorem bigmul_any (z : Nat) (p q : Option Addr) (i j : Int) (w : World) (hz : Blk w z 55 [.bool false, .slice none 0 0]) (hx : Bg w w.heap.size p i) (hy : Bg w w.heap.size q j) (hne : p ≠ some ⟨z, 0, none⟩) (hne2 : q ≠ some ⟨z, 0, none⟩) (hpq : p ≠ q) (hl1 : i.natAbs < lim) (hl2 : j.natAbs < lim) (h40 : i.natAbs < 18446744073709551616 ^ 39 ∨ j.natAbs < 18446744073709551616 ^ 39)
    (hthr : w.cell? ⟨3, 0, none⟩ = some (.int .i64 40)) :
    Calls Tryz.prog 53 #[.pointer (some ⟨z, 0, none⟩), .pointer none, .pointer p, .pointer q] w (fun e w' => e = .returned (.tuple #[]) ∧ Bg w' w'.heap.size (some ⟨z, 0, none⟩) (i * j) ∧ Up (some z) w w') := by
  obtain ⟨b1, abs1, rfl, hb1, hk1, hn1⟩ := hx
  obtain ⟨b2, abs2, rfl, hb2, hk2, hn2⟩ := hy
  have hb12 : b1 ≠ b2 := fun h => hpq (by rw [h])
  have hzb1 : ¬ b1 = z := fun h => hne (by rw [h])
  have hzb2 : ¬ b2 = z := fun h => hne2 (by rw [h])
  obtain ⟨iI, hiI, hsI⟩ := infoIsz
  have C : Hid (∀ W, Qt w W → Calls Tryz.prog 70 #[.slice none 0 0, .pointer none, abs1, abs2] W fun e w' => ∃ v, e = .returned v ∧ Ow w' w.heap.size v (i.natAbs * j.natAbs) ∧ Below w.heap.size w w') := Lib.hid (by
    rintro W ⟨k, rfl⟩
    refine (natMul_any i.natAbs j.natAbs abs1 abs2 (w.drewN k) (hn1.drewN k) (hn2.drewN k) hl1 hl2 h40 hthr).mono ?_
    rintro e w' ⟨v, rfl, hv, hb⟩
    exact ⟨v, rfl, hv, (below_drewN (Below.refl _ _) k).trans hb⟩)
  have KEEP : Hid (∀ w1, Below w.heap.size w w1 → ((∃ v, w1.cell? ⟨z, 0, none⟩ = some v) ∧ (∃ v, w1.cell? ⟨z, 1, none⟩ = some v) ∧ w1.frozen? ⟨z, 0, none⟩ = false ∧ w1.frozen? ⟨z, 1, none⟩ = false ∧ z < w1.heap.size) ∧ w1.cell? ⟨b1, 0, none⟩ = some (.bool (decide (i < 0))) ∧ w1.cell? ⟨b2, 0, none⟩ = some (.bool (decide (j < 0))) ∧ b1 < w1.heap.size ∧ b2 < w1.heap.size) := Lib.hid (by
    intro w1 hb
    have h := hz.below hb hz.lt
    have h1 := hk1.below hb hb1
    have h2 := hk2.below hb hb2
    exact ⟨⟨⟨_, h.cell 0 (by simp)⟩, ⟨_, h.cell 1 (by simp)⟩, h.free 0, h.free 1, h.lt⟩, h1.cell 0 (by simp), h2.cell 0 (by simp), h1.lt, h2.lt⟩)
  have FIN : Hid (∀ w1 av nv cv s, (0 < nv ↔ 0 < i.natAbs * j.natAbs) → Ow w1 w.heap.size (.slice av nv cv) (i.natAbs * j.natAbs) → Below w.heap.size w w1 → s = (decide (0 < nv) && (decide (i < 0) != decide (j < 0))) → Bg ((w1.setCell ⟨z, 1, none⟩ (.slice av nv cv)).setCell ⟨z, 0, none⟩ (.bool s)) ((w1.setCell ⟨z, 1, none⟩ (.slice av nv cv)).setCell ⟨z, 0, none⟩ (.bool s)).heap.size (some ⟨z, 0, none⟩) (i * j) ∧ Up (some z) w ((w1.setCell ⟨z, 1, none⟩ (.slice av nv cv)).setCell ⟨z, 0, none⟩ (.bool s))) := Lib.hid (by
    intro w1 av nv cv s hp ho hb hs
    have h := own_fin (B := 0) hz hz.lt (Nat.zero_le _) (Nat.zero_le _) ho hb (k := i * j) (by rw [Int.natAbs_mul]) (s := s) (by rw [hs, mul_neg_iff, decide_eq_decide.2 hp])
    exact ⟨h.2.1, ((Up.of_below hb).set 1 _).set 0 _⟩)
  obtain ⟨a1, n1, c1, rfl, -⟩ : ∃ a n c, abs1 = .slice a n c ∧ True := by
    obtain ⟨xs, _, a, c, h, _⟩ := hn1; exact ⟨a, _, c, h, trivial⟩
  obtain ⟨a2, n2, c2, rfl, -⟩ : ∃ a n c, abs2 = .slice a n c ∧ True := by
    obtain ⟨xs, _, a, c, h, _⟩ := hn2; exact ⟨a, _, c, h, trivial⟩
  have z0 := hz.cell 0 (by simp)
  have z1 := hz.cell 1 (by simp)
  have x1 := hk1.cell 1 (by simp)
  have y1 := hk2.cell 1 (by simp)
  simp only [List.getD_cons_succ, List.getD_cons_zero] at z0 z1 x1 y1
  have hpe : (binOp .eql 40 (.pointer (some ⟨b1, 0, none⟩)) (.pointer (some ⟨b2, 0, none⟩))).run Tryz.prog w = .ok (.bool false) w := by
    have h := run_equal_ptr_rd (P := Tryz.prog) (o := 0) (o1 := 0) Tryz.underlying40 hiI hsI hk1 (hk2.cell 0 (by simp)) hb12
    simp only [binOp]
    simp [h]
  have lz := hz.lt
  have lx := hk1.lt
  have ly := hk2.lt
  have hpos := (Nat.pos_iff_ne_zero (n := i.natAbs * j.natAbs))
  clear hk1 hk2 hz hn1 hn2 hb1 hb2 hne hne2 hpq hl1 hl2 h40 hthr hiI hsI hpos
  obtain ⟨s1, hs1⟩ : ∃ s, s = decide (i < 0) := ⟨_, rfl⟩
  obtain ⟨s2, hs2⟩ : ∃ s, s = decide (j < 0) := ⟨_, rfl⟩
  rw [← hs1, ← hs2] at KEEP FIN
  clear hs1 hs2
  generalize i.natAbs * j.natAbs = M at *
  go_enter Tryz.func53, Tryz.ntmps53
  go_upto_region 3 with fail
  go_cut [] from 27 to 43 (fun wx => OwPut z w.heap.size M w wx)
  case first =>
    clear FIN
    go_region_with ((go_at_call 70; refine (C.out _ (by exact ⟨_, rfl⟩)).mono ?_; rintro e w1 ⟨v, rfl, hn, hb⟩; obtain ⟨⟨⟨v0, k0⟩, ⟨v1, k1⟩, f0, f1, l1⟩, _⟩ := KEEP.out _ hb; obtain ⟨av, nv, cv, rfl, hpos⟩ := ow_form hn; have HP := Lib.hid hpos; have HN := Lib.hid hn; have HB := Lib.hid hb; clear hn hb hpos))
    all_goals (go_wp2_with fail; go_meet; exact ⟨av, nv, cv, w1, rfl, HP.out, HN.out, HB.out⟩)
  case rest =>
    obtain ⟨av, nv, cv, w1, rfl, hpos, hn, hb⟩ := hcut
    obtain ⟨⟨⟨v0, k0⟩, ⟨v1, k1⟩, f0, f1, l1⟩, p1, p2, p3, p4⟩ := KEEP.out _ hb
    have G : Hid (∀ s, s = (decide (0 < nv) && (s1 != s2)) → _) := Lib.hid (fun s hs => FIN.out w1 av nv cv s hpos hn hb hs)
    clear FIN hpos hn hb C KEEP hpe z0 z1 x1 y1
    by_cases h0 : 0 < nv
    · have hg : (0 : Int) < (nv : Int) := by omega
      rw [decide_eq_true h0] at G
      have G1 := G.out _ rfl
      have G2 := Lib.hid G1
      clear G G1
      go_wp2_with fail
      go_big_region
      go_wp2_with fail
      go_end0
      exact ⟨rfl, G2.out.1.drewN 1, G2.out.2.drewN 1⟩
    · obtain rfl : nv = 0 := by omega
      have G1 := G.out _ rfl
      have G2 := Lib.hid G1
      clear G G1 h0
      go_wp2_with fail
      go_big_region
      go_wp2_with fail
      go_end0
      exact ⟨rfl, G2.out.1.drewN 1, G2.out.2.drewN 1⟩
theorem bigMul_any (z : Nat) (p q : Option Addr) (i j : Int) (w : World) (hz : Blk w z 55 [.bool false, .slice none 0 0]) (hx : Bg w w.heap.size p i) (hy : Bg w w.heap.size q j) (hne : p ≠ some ⟨z, 0, none⟩) (hne2 : q ≠ some ⟨z, 0, none⟩) (hpq : p ≠ q) (hl1 : i.natAbs < lim) (hl2 : j.natAbs < lim) (h40 : i.natAbs < 18446744073709551616 ^ 39 ∨ j.natAbs < 18446744073709551616 ^ 39)
    (hthr : w.cell? ⟨3, 0, none⟩ = some (.int .i64 40)) :
    Calls Tryz.prog 39 #[.pointer (some ⟨z, 0, none⟩), .pointer p, .pointer q] w (PutPost z (i * j) w) := by
  have C := Lib.hid (bigmul_any z p q i j w hz hx hy hne hne2 hpq hl1 hl2 h40 hthr)
  clear hz hx hy hne hne2 hpq hl1 hl2 h40 hthr
  go_enter Tryz.func39, Tryz.ntmps39
  go_wp2_with fail
  with_reducible refine C.out.mono ?_
  rintro e w1 ⟨rfl, h1, h2⟩
  have H1 := Lib.hid h1
  have H2 := Lib.hid h2
  clear h1 h2
  go_wp2_with fail
  go_ret
  exact ⟨rfl, H1.out, H2.out⟩
end Go.Proofs.YtpcnmgldmnncoaaGreatDoor
