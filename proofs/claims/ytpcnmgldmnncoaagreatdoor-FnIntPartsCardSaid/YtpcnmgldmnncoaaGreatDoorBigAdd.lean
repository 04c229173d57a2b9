/- (*Int).Add, (*Int).Sub into a fresh integer. -/
import Derived.Test.YtpcnmgldmnncoaaGreatDoorNatSub
import Derived.Test.YtpcnmgldmnncoaaGreatDoorMNew
import Derived.Deep.RegionWith
import Derived.Deep.CutRange
namespace Go.Proofs.YtpcnmgldmnncoaaGreatDoor
open Go.RowKit Dig
set_option linter.unusedVariables false
set_option linter.unusedSimpArgs false
set_option maxRecDepth 100000

theorem lim_pow : lim = 18446744073709551616 ^ limW := by unfold lim; rw [pow_words]
theorem NtPost.of_qt {m : Nat} {w W : World} {e : Ending} {w' : World} (h : NtPost m W e w') (hq : Qt w W) : NtPost m w e w' := by
  obtain ⟨v, he, hn, hb⟩ := h
  obtain ⟨q, rfl⟩ := hq
  exact ⟨v, he, hn, (below_drewN (Below.refl _ w) q).trans hb⟩
theorem Nt.qt {w W : World} {B : Nat} {v : Value} {m : Nat} (h : Nt w B v m) (hq : Qt w W) : Nt W B v m := by
  obtain ⟨q, rfl⟩ := hq
  exact h
theorem Qt.size {w W : World} (hq : Qt w W) : W.heap.size = w.heap.size := by obtain ⟨q, rfl⟩ := hq; rfl
/-- a number in memory: its slice, and whether it is 0 -/
theorem Nt.form {w : World} {B : Nat} {v : Value} {m : Nat} (h : Nt w B v m) : ∃ (a : Option Addr) (n c : Nat), v = .slice a n c ∧ (0 < n ↔ 0 < m) := by
  obtain ⟨xs, hr, a, c, rfl, _⟩ := h
  refine ⟨a, _, c, rfl, ?_⟩
  have := hr.pos_iff (by omega)
  simp only [List.length_map]
  by_cases h0 : xs = []
  · have := this.1 h0
    subst h0
    simp; omega
  · have h1 := List.length_pos_iff.2 h0
    have h2 : ¬ m = 0 := fun h => h0 (this.2 h)
    constructor <;> omega
theorem put_nt {w w1 : World} {z : Nat} {i : Int} {v : Value} {L : List Value} (hz : Blk w z 55 L) (hL : L.length = 2) (hd : ∀ u ∈ L, ∀ m, u ≠ wv m) (hn : Nt w1 w1.heap.size v i.natAbs) (hb : Below w.heap.size w w1) (s : Bool) (hs : s = decide (i < 0)) :
    PutPost z i w (.returned (.pointer (some ⟨z, 0, none⟩))) ((w1.setCell ⟨z, 1, none⟩ v).setCell ⟨z, 0, none⟩ (.bool s)) := by
  subst hs
  obtain ⟨xs, hr, hs⟩ := hn
  exact put_fin hz hL hd hr hs hb

/-- a number has been laid into the words of z -/
def AbsPut (z m : Nat) (w wx : World) : Prop :=
  ∃ av nv cv w1, wx = w1.setCell ⟨z, 1, none⟩ (.slice av nv cv) ∧ (0 < nv ↔ 0 < m) ∧ Nt w1 w1.heap.size (.slice av nv cv) m ∧ Below w.heap.size w w1

set_option maxHeartbeats 3200000 in
theorem bigAdd_any (z : Nat) (p q : Option Addr) (i j : Int) (w : World) (hz : Blk w z 55 [.bool false, .slice none 0 0]) (hx : Bg w w.heap.size p i) (hy : Bg w w.heap.size q j) (hne : p ≠ some ⟨z, 0, none⟩) (hne2 : q ≠ some ⟨z, 0, none⟩) (hl1 : i.natAbs < lim) (hl2 : j.natAbs < lim) :
    Calls Tryz.prog 36 #[.pointer (some ⟨z, 0, none⟩), .pointer p, .pointer q] w (PutPost z (i + j) w) := by
  obtain ⟨b1, abs1, rfl, hb1, hk1, hn1⟩ := hx
  obtain ⟨b2, abs2, rfl, hb2, hk2, hn2⟩ := hy
  have hzb1 : ¬ b1 = z := fun h => hne (by rw [h])
  have hzb2 : ¬ b2 = z := fun h => hne2 (by rw [h])
  have z0 : w.cell? ⟨z, 0, none⟩ = some (.bool false) := hz.cell 0 (by simp)
  have z1 : w.cell? ⟨z, 1, none⟩ = some (.slice none 0 0) := hz.cell 1 (by simp)
  have x0 : w.cell? ⟨b1, 0, none⟩ = some (.bool (decide (i < 0))) := hk1.cell 0 (by simp)
  have x1 : w.cell? ⟨b1, 1, none⟩ = some abs1 := hk1.cell 1 (by simp)
  have y0 : w.cell? ⟨b2, 0, none⟩ = some (.bool (decide (j < 0))) := hk2.cell 0 (by simp)
  have y1 : w.cell? ⟨b2, 1, none⟩ = some abs2 := hk2.cell 1 (by simp)
  have hzl := hz.lt
  have KEEP : Hid (∀ w1, Below w.heap.size w w1 → w1.cell? ⟨z, 0, none⟩ = some (.bool false) ∧ w1.cell? ⟨z, 1, none⟩ = some (.slice none 0 0) ∧ w1.frozen? ⟨z, 0, none⟩ = false ∧ w1.frozen? ⟨z, 1, none⟩ = false ∧ w1.cell? ⟨b1, 1, none⟩ = some abs1 ∧ w1.cell? ⟨b2, 1, none⟩ = some abs2) := Lib.hid (by
    intro w1 hb
    have h := hz.below hb hzl
    exact ⟨h.cell 0 (by simp), h.cell 1 (by simp), h.free 0, h.free 1, (hk1.below hb hb1).cell 1 (by simp), (hk2.below hb hb2).cell 1 (by simp)⟩)
  have ADD : Hid (∀ W, Qt w W → Calls Tryz.prog 50 #[.slice none 0 0, abs1, abs2] W (NtPost (i.natAbs + j.natAbs) w)) := Lib.hid (by
    intro W hq
    refine (natAdd_any _ _ _ _ W (by rw [hq.size]; exact hn1.qt hq) (by rw [hq.size]; exact hn2.qt hq) hl1 hl2).mono ?_
    intro e w' h
    exact h.of_qt hq)
  have CMP : Hid (∀ q, Calls Tryz.prog 51 #[abs1, abs2] (w.drewN q) fun e w'' => e = .returned (.int .i64 (cmpN i.natAbs j.natAbs)) ∧ ∃ m, w'' = w.drewN m) := Lib.hid (by
    intro q
    refine (natCmp_any _ _ _ _ (w.drewN q) hn1 hn2 hl1 hl2).mono ?_
    rintro e w' ⟨rfl, m, rfl⟩
    exact ⟨rfl, q + m, World.drewN_drewN _ _ _⟩)
  have CMP2 : Hid (∀ k q, Calls Tryz.prog 51 #[abs1, abs2] (w.drewN (k + q)) fun e w'' => e = .returned (.int .i64 (cmpN i.natAbs j.natAbs)) ∧ ∃ m, w'' = w.drewN (k + m)) := Lib.hid (by
    intro k q
    refine (natCmp_any _ _ _ _ (w.drewN (k + q)) hn1 hn2 hl1 hl2).mono ?_
    rintro e w' ⟨rfl, m, rfl⟩
    exact ⟨rfl, q + m, by rw [World.drewN_drewN, Nat.add_assoc]⟩)
  have SUB1 : Hid (j.natAbs ≤ i.natAbs → ∀ W, Qt w W → Calls Tryz.prog 52 #[.slice none 0 0, abs1, abs2] W (NtPost (i.natAbs - j.natAbs) w)) := Lib.hid (by
    intro hle W hq
    refine (natSub_any _ _ _ _ W (by rw [hq.size]; exact hn1.qt hq) (by rw [hq.size]; exact hn2.qt hq) hl1 hle).mono ?_
    intro e w' h
    exact h.of_qt hq)
  have SUB2 : Hid (i.natAbs ≤ j.natAbs → ∀ W, Qt w W → Calls Tryz.prog 52 #[.slice none 0 0, abs2, abs1] W (NtPost (j.natAbs - i.natAbs) w)) := Lib.hid (by
    intro hle W hq
    refine (natSub_any _ _ _ _ W (by rw [hq.size]; exact hn2.qt hq) (by rw [hq.size]; exact hn1.qt hq) hl2 hle).mono ?_
    intro e w' h
    exact h.of_qt hq)
  have FIN : Hid (∀ (s : Bool) (v : Value) (w1 : World) (m : Nat), Nt w1 w1.heap.size v m → Below w.heap.size w w1 → m = (i + j).natAbs → s = decide (i + j < 0) → PutPost z (i + j) w (.returned (.pointer (some ⟨z, 0, none⟩))) ((w1.setCell ⟨z, 1, none⟩ v).setCell ⟨z, 0, none⟩ (.bool s))) := Lib.hid (by
    intro s v w1 m h hb hm hs
    exact put_nt hz rfl (by simp [wv]) (by rw [← hm]; exact h) hb s hs)
  have hcmp1 : Hid (j.natAbs ≤ i.natAbs → 0 ≤ cmpN i.natAbs j.natAbs) := Lib.hid (by intro h; unfold cmpN; rw [if_neg (by omega)]; split <;> omega)
  have hcmp2 : Hid (¬ j.natAbs ≤ i.natAbs → ¬ 0 ≤ cmpN i.natAbs j.natAbs) := Lib.hid (by intro h; unfold cmpN; rw [if_pos (by omega)]; omega)
  have HI := Lib.hid hl1
  clear hz hk1 hk2 hn1 hn2 hne hne2 hl1 hl2
  generalize cmpN i.natAbs j.natAbs = cr at *
  obtain ⟨s1, hs1⟩ : ∃ s, s = decide (i < 0) := ⟨_, rfl⟩
  obtain ⟨s2, hs2⟩ : ∃ s, s = decide (j < 0) := ⟨_, rfl⟩
  rw [← hs1] at x0
  rw [← hs2] at y0
  have HS1 := Lib.hid hs1
  have HS2 := Lib.hid hs2
  clear hs1 hs2
  have SGN : Hid (∀ s : Bool, (s = true ↔ i + j < 0) → s = decide (i + j < 0)) := Lib.hid (by
    intro s h
    cases s
    · exact (decide_eq_false (by simpa using h)).symm
    · exact (decide_eq_true (by simpa using h)).symm)
  have S1 : Hid (s1 = true ↔ i < 0) := Lib.hid (by rw [HS1.out]; simp)
  have S2 : Hid (s2 = true ↔ j < 0) := Lib.hid (by rw [HS2.out]; simp)
  by_cases hss : s1 = s2
  · subst hss
    have C : Hid (∀ W, Qt w W → Calls Tryz.prog 50 #[.slice none 0 0, abs1, abs2] W (NtPost (i.natAbs + j.natAbs) w)) := Lib.hid ADD.out
    have E : Hid (∀ n : Nat, (0 < n ↔ 0 < i.natAbs + j.natAbs) → i.natAbs + j.natAbs = (i + j).natAbs ∧ (0 < n → s1 = decide (i + j < 0)) ∧ (¬ 0 < n → false = decide (i + j < 0))) := Lib.hid (by
      intro n hn
      have h1 := S1.out
      have h2 := S2.out
      refine ⟨?_, fun h => SGN.out _ ?_, fun h => SGN.out _ ?_⟩
      · cases s1 <;> simp at h1 h2 <;> omega
      · cases s1 <;> simp at h1 h2 ⊢ <;> omega
      · simp; cases s1 <;> simp at h1 h2 <;> omega)
    clear ADD SUB1 SUB2 HI hcmp1 hcmp2 HS1 HS2 S1 S2 SGN
    go_enter Tryz.func36, Tryz.ntmps36
    go_wp2_with fail
    go_quiet (fail)
    go_wp2_with fail
    go_upto_region 1 with fail
    go_cut [] from 21 to 36 (fun wx => AbsPut z (i.natAbs + j.natAbs) w wx)
    case first =>
      go_region_with ((go_at_call 50; refine (C.out _ (by exact ⟨_, rfl⟩)).mono ?_; rintro e w1 ⟨v, rfl, hn, hb⟩; obtain ⟨k0, k1, f0, f1, k2, k3⟩ := KEEP.out _ hb; obtain ⟨av, nv, cv, rfl, hpos⟩ := hn.form; have HP := Lib.hid hpos; have HN := Lib.hid hn; have HB := Lib.hid hb; clear hn hb hpos))
      all_goals (go_wp2_with fail; go_meet; exact ⟨av, nv, cv, w1, rfl, HP.out, HN.out, HB.out⟩)
    case rest =>
      obtain ⟨av, nv, cv, w1, rfl, hpos, hn, hb⟩ := hcut
      obtain ⟨k0, k1, f0, f1, k2, k3⟩ := KEEP.out _ hb
      obtain ⟨e1, e2, e3⟩ := E.out nv hpos
      have F1 : Hid (0 < nv → _) := Lib.hid (fun h => FIN.out _ _ w1 _ hn hb e1 (e2 h))
      have F2 : Hid (¬ 0 < nv → _) := Lib.hid (fun h => FIN.out _ _ w1 _ hn hb e1 (e3 h))
      clear e1 e2 e3 hpos hn hb
      by_cases h0 : 0 < nv
      · have G := Lib.hid (F1.out h0)
        clear F1 F2
        go_wp2_with fail
        go_ret
        exact G.out
      · obtain rfl : nv = 0 := by omega
        have G := Lib.hid (F2.out h0)
        clear F1 F2 h0
        go_wp2_with fail
        go_ret
        exact G.out
  · have hse : (s1 == s2) = false := by simpa using hss
    obtain rfl : s2 = !s1 := by cases s1 <;> cases s2 <;> simp_all
    by_cases hle : j.natAbs ≤ i.natAbs
    · have hcr : 0 ≤ cr := hcmp1.out hle
      have C : Hid (∀ W, Qt w W → Calls Tryz.prog 52 #[.slice none 0 0, abs1, abs2] W (NtPost (i.natAbs - j.natAbs) w)) := Lib.hid (SUB1.out hle)
      have E : Hid (∀ n : Nat, (0 < n ↔ 0 < i.natAbs - j.natAbs) → i.natAbs - j.natAbs = (i + j).natAbs ∧ (0 < n → s1 = decide (i + j < 0)) ∧ (¬ 0 < n → false = decide (i + j < 0))) := Lib.hid (by
        intro n hn
        have h1 := S1.out
        have h2 := S2.out
        refine ⟨?_, fun h => SGN.out _ ?_, fun h => SGN.out _ ?_⟩
        · cases s1 <;> simp at h1 h2 <;> omega
        · cases s1 <;> simp at h1 h2 ⊢ <;> omega
        · simp; cases s1 <;> simp at h1 h2 <;> omega)
      clear ADD SUB1 SUB2 HI hcmp1 hcmp2 HS1 HS2 S1 S2 SGN hle
      go_enter Tryz.func36, Tryz.ntmps36
      go_wp2_with fail
      go_quiet (fail)
      go_wp2_with fail
      go_quiet ((go_at_call 51; first | (with_reducible exact CMP.out _) | (with_reducible exact CMP2.out _ _)))
      go_upto_region 1 with fail
      go_cut [] from 47 to 62 (fun wx => AbsPut z (i.natAbs - j.natAbs) w wx)
      case first =>
        go_region_with ((go_at_call 52; refine (C.out _ (by exact ⟨_, rfl⟩)).mono ?_; rintro e w1 ⟨v, rfl, hn, hb⟩; obtain ⟨k0, k1, f0, f1, k2, k3⟩ := KEEP.out _ hb; obtain ⟨av, nv, cv, rfl, hpos⟩ := hn.form; have HP := Lib.hid hpos; have HN := Lib.hid hn; have HB := Lib.hid hb; clear hn hb hpos))
        all_goals (go_wp2_with fail; go_meet; exact ⟨av, nv, cv, w1, rfl, HP.out, HN.out, HB.out⟩)
      case rest =>
        obtain ⟨av, nv, cv, w1, rfl, hpos, hn, hb⟩ := hcut
        obtain ⟨k0, k1, f0, f1, k2, k3⟩ := KEEP.out _ hb
        obtain ⟨e1, e2, e3⟩ := E.out nv hpos
        have F1 : Hid (0 < nv → _) := Lib.hid (fun h => FIN.out _ _ w1 _ hn hb e1 (e2 h))
        have F2 : Hid (¬ 0 < nv → _) := Lib.hid (fun h => FIN.out _ _ w1 _ hn hb e1 (e3 h))
        clear e1 e2 e3 hpos hn hb
        by_cases h0 : 0 < nv
        · have G := Lib.hid (F1.out h0)
          clear F1 F2
          go_wp2_with fail
          go_ret
          exact G.out
        · obtain rfl : nv = 0 := by omega
          have G := Lib.hid (F2.out h0)
          clear F1 F2 h0
          go_wp2_with fail
          go_ret
          exact G.out
    · have hle2 : i.natAbs ≤ j.natAbs := by omega
      have hcr : ¬ 0 ≤ cr := hcmp2.out hle
      have C : Hid (∀ W, Qt w W → Calls Tryz.prog 52 #[.slice none 0 0, abs2, abs1] W (NtPost (j.natAbs - i.natAbs) w)) := Lib.hid (SUB2.out hle2)
      have E : Hid (∀ n : Nat, (0 < n ↔ 0 < j.natAbs - i.natAbs) → j.natAbs - i.natAbs = (i + j).natAbs ∧ (0 < n → (!s1) = decide (i + j < 0)) ∧ (¬ 0 < n → false = decide (i + j < 0))) := Lib.hid (by
        intro n hn
        have h1 := S1.out
        have h2 := S2.out
        refine ⟨?_, fun h => SGN.out _ ?_, fun h => SGN.out _ ?_⟩
        · cases s1 <;> simp at h1 h2 <;> omega
        · cases s1 <;> simp at h1 h2 ⊢ <;> omega
        · simp; cases s1 <;> simp at h1 h2 <;> omega)
      clear ADD SUB1 SUB2 HI hcmp1 hcmp2 HS1 HS2 S1 S2 SGN hle hle2
      go_enter Tryz.func36, Tryz.ntmps36
      go_wp2_with fail
      go_quiet (fail)
      go_wp2_with fail
      go_quiet ((go_at_call 51; first | (with_reducible exact CMP.out _) | (with_reducible exact CMP2.out _ _)))
      go_upto_region 1 with fail
      go_cut [] from 65 to 80 (fun wx => AbsPut z (j.natAbs - i.natAbs) w wx)
      case first =>
        go_region_with ((go_at_call 52; refine (C.out _ (by exact ⟨_, rfl⟩)).mono ?_; rintro e w1 ⟨v, rfl, hn, hb⟩; obtain ⟨k0, k1, f0, f1, k2, k3⟩ := KEEP.out _ hb; obtain ⟨av, nv, cv, rfl, hpos⟩ := hn.form; have HP := Lib.hid hpos; have HN := Lib.hid hn; have HB := Lib.hid hb; clear hn hb hpos))
        all_goals (go_wp2_with fail; go_meet; exact ⟨av, nv, cv, w1, rfl, HP.out, HN.out, HB.out⟩)
      case rest =>
        obtain ⟨av, nv, cv, w1, rfl, hpos, hn, hb⟩ := hcut
        obtain ⟨k0, k1, f0, f1, k2, k3⟩ := KEEP.out _ hb
        obtain ⟨e1, e2, e3⟩ := E.out nv hpos
        have F1 : Hid (0 < nv → _) := Lib.hid (fun h => FIN.out _ _ w1 _ hn hb e1 (e2 h))
        have F2 : Hid (¬ 0 < nv → _) := Lib.hid (fun h => FIN.out _ _ w1 _ hn hb e1 (e3 h))
        clear e1 e2 e3 hpos hn hb
        by_cases h0 : 0 < nv
        · have G := Lib.hid (F1.out h0)
          clear F1 F2
          go_wp2_with fail
          go_ret
          exact G.out
        · obtain rfl : nv = 0 := by omega
          have G := Lib.hid (F2.out h0)
          clear F1 F2 h0
          go_wp2_with fail
          go_ret
          exact G.out

set_option maxHeartbeats 3200000 in
theorem bigSub_any (z : Nat) (p q : Option Addr) (i j : Int) (w : World) (hz : Blk w z 55 [.bool false, .slice none 0 0]) (hx : Bg w w.heap.size p i) (hy : Bg w w.heap.size q j) (hne : p ≠ some ⟨z, 0, none⟩) (hne2 : q ≠ some ⟨z, 0, none⟩) (hl1 : i.natAbs < lim) (hl2 : j.natAbs < lim) :
    Calls Tryz.prog 40 #[.pointer (some ⟨z, 0, none⟩), .pointer p, .pointer q] w (PutPost z (i - j) w) := by
  obtain ⟨b1, abs1, rfl, hb1, hk1, hn1⟩ := hx
  obtain ⟨b2, abs2, rfl, hb2, hk2, hn2⟩ := hy
  have hzb1 : ¬ b1 = z := fun h => hne (by rw [h])
  have hzb2 : ¬ b2 = z := fun h => hne2 (by rw [h])
  have z0 : w.cell? ⟨z, 0, none⟩ = some (.bool false) := hz.cell 0 (by simp)
  have z1 : w.cell? ⟨z, 1, none⟩ = some (.slice none 0 0) := hz.cell 1 (by simp)
  have x0 : w.cell? ⟨b1, 0, none⟩ = some (.bool (decide (i < 0))) := hk1.cell 0 (by simp)
  have x1 : w.cell? ⟨b1, 1, none⟩ = some abs1 := hk1.cell 1 (by simp)
  have y0 : w.cell? ⟨b2, 0, none⟩ = some (.bool (decide (j < 0))) := hk2.cell 0 (by simp)
  have y1 : w.cell? ⟨b2, 1, none⟩ = some abs2 := hk2.cell 1 (by simp)
  have hzl := hz.lt
  have KEEP : Hid (∀ w1, Below w.heap.size w w1 → w1.cell? ⟨z, 0, none⟩ = some (.bool false) ∧ w1.cell? ⟨z, 1, none⟩ = some (.slice none 0 0) ∧ w1.frozen? ⟨z, 0, none⟩ = false ∧ w1.frozen? ⟨z, 1, none⟩ = false ∧ w1.cell? ⟨b1, 1, none⟩ = some abs1 ∧ w1.cell? ⟨b2, 1, none⟩ = some abs2) := Lib.hid (by
    intro w1 hb
    have h := hz.below hb hzl
    exact ⟨h.cell 0 (by simp), h.cell 1 (by simp), h.free 0, h.free 1, (hk1.below hb hb1).cell 1 (by simp), (hk2.below hb hb2).cell 1 (by simp)⟩)
  have ADD : Hid (∀ W, Qt w W → Calls Tryz.prog 50 #[.slice none 0 0, abs1, abs2] W (NtPost (i.natAbs + j.natAbs) w)) := Lib.hid (by
    intro W hq
    refine (natAdd_any _ _ _ _ W (by rw [hq.size]; exact hn1.qt hq) (by rw [hq.size]; exact hn2.qt hq) hl1 hl2).mono ?_
    intro e w' h
    exact h.of_qt hq)
  have CMP : Hid (∀ q, Calls Tryz.prog 51 #[abs1, abs2] (w.drewN q) fun e w'' => e = .returned (.int .i64 (cmpN i.natAbs j.natAbs)) ∧ ∃ m, w'' = w.drewN m) := Lib.hid (by
    intro q
    refine (natCmp_any _ _ _ _ (w.drewN q) hn1 hn2 hl1 hl2).mono ?_
    rintro e w' ⟨rfl, m, rfl⟩
    exact ⟨rfl, q + m, World.drewN_drewN _ _ _⟩)
  have CMP2 : Hid (∀ k q, Calls Tryz.prog 51 #[abs1, abs2] (w.drewN (k + q)) fun e w'' => e = .returned (.int .i64 (cmpN i.natAbs j.natAbs)) ∧ ∃ m, w'' = w.drewN (k + m)) := Lib.hid (by
    intro k q
    refine (natCmp_any _ _ _ _ (w.drewN (k + q)) hn1 hn2 hl1 hl2).mono ?_
    rintro e w' ⟨rfl, m, rfl⟩
    exact ⟨rfl, q + m, by rw [World.drewN_drewN, Nat.add_assoc]⟩)
  have SUB1 : Hid (j.natAbs ≤ i.natAbs → ∀ W, Qt w W → Calls Tryz.prog 52 #[.slice none 0 0, abs1, abs2] W (NtPost (i.natAbs - j.natAbs) w)) := Lib.hid (by
    intro hle W hq
    refine (natSub_any _ _ _ _ W (by rw [hq.size]; exact hn1.qt hq) (by rw [hq.size]; exact hn2.qt hq) hl1 hle).mono ?_
    intro e w' h
    exact h.of_qt hq)
  have SUB2 : Hid (i.natAbs ≤ j.natAbs → ∀ W, Qt w W → Calls Tryz.prog 52 #[.slice none 0 0, abs2, abs1] W (NtPost (j.natAbs - i.natAbs) w)) := Lib.hid (by
    intro hle W hq
    refine (natSub_any _ _ _ _ W (by rw [hq.size]; exact hn2.qt hq) (by rw [hq.size]; exact hn1.qt hq) hl2 hle).mono ?_
    intro e w' h
    exact h.of_qt hq)
  have FIN : Hid (∀ (s : Bool) (v : Value) (w1 : World) (m : Nat), Nt w1 w1.heap.size v m → Below w.heap.size w w1 → m = (i - j).natAbs → s = decide (i - j < 0) → PutPost z (i - j) w (.returned (.pointer (some ⟨z, 0, none⟩))) ((w1.setCell ⟨z, 1, none⟩ v).setCell ⟨z, 0, none⟩ (.bool s))) := Lib.hid (by
    intro s v w1 m h hb hm hs
    exact put_nt hz rfl (by simp [wv]) (by rw [← hm]; exact h) hb s hs)
  have hcmp1 : Hid (j.natAbs ≤ i.natAbs → 0 ≤ cmpN i.natAbs j.natAbs) := Lib.hid (by intro h; unfold cmpN; rw [if_neg (by omega)]; split <;> omega)
  have hcmp2 : Hid (¬ j.natAbs ≤ i.natAbs → ¬ 0 ≤ cmpN i.natAbs j.natAbs) := Lib.hid (by intro h; unfold cmpN; rw [if_pos (by omega)]; omega)
  have HI := Lib.hid hl1
  clear hz hk1 hk2 hn1 hn2 hne hne2 hl1 hl2
  generalize cmpN i.natAbs j.natAbs = cr at *
  obtain ⟨s1, hs1⟩ : ∃ s, s = decide (i < 0) := ⟨_, rfl⟩
  obtain ⟨s2, hs2⟩ : ∃ s, s = decide (j < 0) := ⟨_, rfl⟩
  rw [← hs1] at x0
  rw [← hs2] at y0
  have HS1 := Lib.hid hs1
  have HS2 := Lib.hid hs2
  clear hs1 hs2
  have SGN : Hid (∀ s : Bool, (s = true ↔ i - j < 0) → s = decide (i - j < 0)) := Lib.hid (by
    intro s h
    cases s
    · exact (decide_eq_false (by simpa using h)).symm
    · exact (decide_eq_true (by simpa using h)).symm)
  have S1 : Hid (s1 = true ↔ i < 0) := Lib.hid (by rw [HS1.out]; simp)
  have S2 : Hid (s2 = true ↔ j < 0) := Lib.hid (by rw [HS2.out]; simp)
  by_cases hss : s1 = s2
  · subst hss
    by_cases hle : j.natAbs ≤ i.natAbs
    · have hcr : 0 ≤ cr := hcmp1.out hle
      have C : Hid (∀ W, Qt w W → Calls Tryz.prog 52 #[.slice none 0 0, abs1, abs2] W (NtPost (i.natAbs - j.natAbs) w)) := Lib.hid (SUB1.out hle)
      have E : Hid (∀ n : Nat, (0 < n ↔ 0 < i.natAbs - j.natAbs) → i.natAbs - j.natAbs = (i - j).natAbs ∧ (0 < n → s1 = decide (i - j < 0)) ∧ (¬ 0 < n → false = decide (i - j < 0))) := Lib.hid (by
        intro n hn
        have h1 := S1.out
        have h2 := S2.out
        refine ⟨?_, fun h => SGN.out _ ?_, fun h => SGN.out _ ?_⟩
        · cases s1 <;> simp at h1 h2 <;> omega
        · cases s1 <;> simp at h1 h2 ⊢ <;> omega
        · simp; cases s1 <;> simp at h1 h2 <;> omega)
      clear ADD SUB1 SUB2 HI hcmp1 hcmp2 HS1 HS2 S1 S2 SGN hle
      go_enter Tryz.func40, Tryz.ntmps40
      go_wp2_with fail
      go_quiet (fail)
      go_wp2_with fail
      go_quiet ((go_at_call 51; first | (with_reducible exact CMP.out _) | (with_reducible exact CMP2.out _ _)))
      go_upto_region 1 with fail
      go_cut [] from 47 to 62 (fun wx => AbsPut z (i.natAbs - j.natAbs) w wx)
      case first =>
        go_region_with ((go_at_call 52; refine (C.out _ (by exact ⟨_, rfl⟩)).mono ?_; rintro e w1 ⟨v, rfl, hn, hb⟩; obtain ⟨k0, k1, f0, f1, k2, k3⟩ := KEEP.out _ hb; obtain ⟨av, nv, cv, rfl, hpos⟩ := hn.form; have HP := Lib.hid hpos; have HN := Lib.hid hn; have HB := Lib.hid hb; clear hn hb hpos))
        all_goals (go_wp2_with fail; go_meet; exact ⟨av, nv, cv, w1, rfl, HP.out, HN.out, HB.out⟩)
      case rest =>
        obtain ⟨av, nv, cv, w1, rfl, hpos, hn, hb⟩ := hcut
        obtain ⟨k0, k1, f0, f1, k2, k3⟩ := KEEP.out _ hb
        obtain ⟨e1, e2, e3⟩ := E.out nv hpos
        have F1 : Hid (0 < nv → _) := Lib.hid (fun h => FIN.out _ _ w1 _ hn hb e1 (e2 h))
        have F2 : Hid (¬ 0 < nv → _) := Lib.hid (fun h => FIN.out _ _ w1 _ hn hb e1 (e3 h))
        clear e1 e2 e3 hpos hn hb
        by_cases h0 : 0 < nv
        · have G := Lib.hid (F1.out h0)
          clear F1 F2
          go_wp2_with fail
          go_ret
          exact G.out
        · obtain rfl : nv = 0 := by omega
          have G := Lib.hid (F2.out h0)
          clear F1 F2 h0
          go_wp2_with fail
          go_ret
          exact G.out
    · have hle2 : i.natAbs ≤ j.natAbs := by omega
      have hcr : ¬ 0 ≤ cr := hcmp2.out hle
      have C : Hid (∀ W, Qt w W → Calls Tryz.prog 52 #[.slice none 0 0, abs2, abs1] W (NtPost (j.natAbs - i.natAbs) w)) := Lib.hid (SUB2.out hle2)
      have E : Hid (∀ n : Nat, (0 < n ↔ 0 < j.natAbs - i.natAbs) → j.natAbs - i.natAbs = (i - j).natAbs ∧ (0 < n → (!s1) = decide (i - j < 0)) ∧ (¬ 0 < n → false = decide (i - j < 0))) := Lib.hid (by
        intro n hn
        have h1 := S1.out
        have h2 := S2.out
        refine ⟨?_, fun h => SGN.out _ ?_, fun h => SGN.out _ ?_⟩
        · cases s1 <;> simp at h1 h2 <;> omega
        · cases s1 <;> simp at h1 h2 ⊢ <;> omega
        · simp; cases s1 <;> simp at h1 h2 <;> omega)
      clear ADD SUB1 SUB2 HI hcmp1 hcmp2 HS1 HS2 S1 S2 SGN hle hle2
      go_enter Tryz.func40, Tryz.ntmps40
      go_wp2_with fail
      go_quiet (fail)
      go_wp2_with fail
      go_quiet ((go_at_call 51; first | (with_reducible exact CMP.out _) | (with_reducible exact CMP2.out _ _)))
      go_upto_region 1 with fail
      go_cut [] from 65 to 80 (fun wx => AbsPut z (j.natAbs - i.natAbs) w wx)
      case first =>
        go_region_with ((go_at_call 52; refine (C.out _ (by exact ⟨_, rfl⟩)).mono ?_; rintro e w1 ⟨v, rfl, hn, hb⟩; obtain ⟨k0, k1, f0, f1, k2, k3⟩ := KEEP.out _ hb; obtain ⟨av, nv, cv, rfl, hpos⟩ := hn.form; have HP := Lib.hid hpos; have HN := Lib.hid hn; have HB := Lib.hid hb; clear hn hb hpos))
        all_goals (go_wp2_with fail; go_meet; exact ⟨av, nv, cv, w1, rfl, HP.out, HN.out, HB.out⟩)
      case rest =>
        obtain ⟨av, nv, cv, w1, rfl, hpos, hn, hb⟩ := hcut
        obtain ⟨k0, k1, f0, f1, k2, k3⟩ := KEEP.out _ hb
        obtain ⟨e1, e2, e3⟩ := E.out nv hpos
        have F1 : Hid (0 < nv → _) := Lib.hid (fun h => FIN.out _ _ w1 _ hn hb e1 (e2 h))
        have F2 : Hid (¬ 0 < nv → _) := Lib.hid (fun h => FIN.out _ _ w1 _ hn hb e1 (e3 h))
        clear e1 e2 e3 hpos hn hb
        by_cases h0 : 0 < nv
        · have G := Lib.hid (F1.out h0)
          clear F1 F2
          go_wp2_with fail
          go_ret
          exact G.out
        · obtain rfl : nv = 0 := by omega
          have G := Lib.hid (F2.out h0)
          clear F1 F2 h0
          go_wp2_with fail
          go_ret
          exact G.out
  · have hse : (s1 != s2) = true := by simpa using hss
    obtain rfl : s2 = !s1 := by cases s1 <;> cases s2 <;> simp_all
    have C : Hid (∀ W, Qt w W → Calls Tryz.prog 50 #[.slice none 0 0, abs1, abs2] W (NtPost (i.natAbs + j.natAbs) w)) := Lib.hid ADD.out
    have E : Hid (∀ n : Nat, (0 < n ↔ 0 < i.natAbs + j.natAbs) → i.natAbs + j.natAbs = (i - j).natAbs ∧ (0 < n → s1 = decide (i - j < 0)) ∧ (¬ 0 < n → false = decide (i - j < 0))) := Lib.hid (by
      intro n hn
      have h1 := S1.out
      have h2 := S2.out
      refine ⟨?_, fun h => SGN.out _ ?_, fun h => SGN.out _ ?_⟩
      · cases s1 <;> simp at h1 h2 <;> omega
      · cases s1 <;> simp at h1 h2 ⊢ <;> omega
      · simp; cases s1 <;> simp at h1 h2 <;> omega)
    clear ADD SUB1 SUB2 HI hcmp1 hcmp2 HS1 HS2 S1 S2 SGN
    go_enter Tryz.func40, Tryz.ntmps40
    go_wp2_with fail
    go_quiet (fail)
    go_wp2_with fail
    go_upto_region 1 with fail
    go_cut [] from 21 to 36 (fun wx => AbsPut z (i.natAbs + j.natAbs) w wx)
    case first =>
      go_region_with ((go_at_call 50; refine (C.out _ (by exact ⟨_, rfl⟩)).mono ?_; rintro e w1 ⟨v, rfl, hn, hb⟩; obtain ⟨k0, k1, f0, f1, k2, k3⟩ := KEEP.out _ hb; obtain ⟨av, nv, cv, rfl, hpos⟩ := hn.form; have HP := Lib.hid hpos; have HN := Lib.hid hn; have HB := Lib.hid hb; clear hn hb hpos))
      all_goals (go_wp2_with fail; go_meet; exact ⟨av, nv, cv, w1, rfl, HP.out, HN.out, HB.out⟩)
    case rest =>
      obtain ⟨av, nv, cv, w1, rfl, hpos, hn, hb⟩ := hcut
      obtain ⟨k0, k1, f0, f1, k2, k3⟩ := KEEP.out _ hb
      obtain ⟨e1, e2, e3⟩ := E.out nv hpos
      have F1 : Hid (0 < nv → _) := Lib.hid (fun h => FIN.out _ _ w1 _ hn hb e1 (e2 h))
      have F2 : Hid (¬ 0 < nv → _) := Lib.hid (fun h => FIN.out _ _ w1 _ hn hb e1 (e3 h))
      clear e1 e2 e3 hpos hn hb
      by_cases h0 : 0 < nv
      · have G := Lib.hid (F1.out h0)
        clear F1 F2
        go_wp2_with fail
        go_ret
        exact G.out
      · obtain rfl : nv = 0 := by omega
        have G := Lib.hid (F2.out h0)
        clear F1 F2 h0
        go_wp2_with fail
        go_ret
        exact G.out

end Go.Proofs.YtpcnmgldmnncoaaGreatDoor
