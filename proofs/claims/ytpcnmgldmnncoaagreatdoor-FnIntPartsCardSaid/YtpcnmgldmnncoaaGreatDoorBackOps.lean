/- (*Int).Add and Sub whose receiver is their first operand: the rest plus the divisor, the quotient less one. -/
import Derived.Test.YtpcnmgldmnncoaaGreatDoorSubOwn
import Derived.Test.YtpcnmgldmnncoaaGreatDoorMMath
import Derived.Test.YtpcnmgldmnncoaaGreatDoorMNew
import Derived.BigRegion
import Derived.Test.YtpcnmgldmnncoaaGreatDoorCmp
namespace Go.Proofs.YtpcnmgldmnncoaaGreatDoor
open Go.RowKit Dig
set_option linter.unusedVariables false
set_option linter.unusedSimpArgs false
set_option maxRecDepth 100000

/-- the number one, new -/
def OnePost (w : World) (e : Ending) (w' : World) : Prop := ∃ b b2 c2, e = .returned (.pointer (some ⟨b, 0, none⟩)) ∧ w.heap.size ≤ b ∧ w.heap.size ≤ b2 ∧ 1 ≤ c2 ∧ Blk w' b 55 [.bool false, .slice (some ⟨b2, 0, none⟩) (1 : Nat) c2] ∧ w'.cell? ⟨b2, 0, none⟩ = some (.int .u64 1) ∧ Below w.heap.size w w'
theorem newOne_any (w : World) : Calls Tryz.prog 47 #[.int .i64 1] w (OnePost w) := by
  go_enter Tryz.func47, Tryz.ntmps47
  go_wp2
  go_ret
  refine ⟨_, w.heap.size, 1, rfl, by omega, Nat.le_refl _, Nat.le_refl _, ?_, ?_, ((Below.refl _ _).alloc (Nat.le_refl _) _).alloc (by simp) _⟩
  · have := Blk.new (w.alloc (.cells #[.int .u64 1] 79)) 55 [.bool false, .slice (some ⟨w.heap.size, 0, none⟩) 1 1]
    simpa using this
  · have h := (Blk.new w 79 [.int .u64 1]).alloc (.cells #[.bool false, .slice (some ⟨w.heap.size, 0, none⟩) 1 1] 55)
    exact h.cell 0 (by simp)
theorem oneBig_any (w : World) : Calls Tryz.prog 41 #[] w (OnePost w) := by
  go_enter Tryz.func41, Tryz.ntmps41
  go_wp2_with fail
  refine (newOne_any _).mono ?_
  rintro e w' ⟨b, b2, c2, rfl, h1, h2, h3, h4, h5, h6⟩
  have H4 := Lib.hid h4
  have H5 := Lib.hid h5
  have H6 := Lib.hid h6
  clear h4 h5 h6
  go_wp2_with fail
  go_ret
  exact ⟨b, b2, c2, rfl, h1, h2, h3, H4.out, H5.out, H6.out⟩
/-- a result in the place z, above B -/
def OutPost (z B : Nat) (k : Int) (w : World) (e : Ending) (w' : World) : Prop := e = .returned (.pointer (some ⟨z, 0, none⟩)) ∧ Bg w' w'.heap.size (some ⟨z, 0, none⟩) k ∧ Below B w w'
/-- a number of one's own has been laid into the words of z -/
def OwPut (z T M : Nat) (w wx : World) : Prop := ∃ av nv cv w1, wx = w1.setCell ⟨z, 1, none⟩ (.slice av nv cv) ∧ (0 < nv ↔ 0 < M) ∧ Ow w1 T (.slice av nv cv) M ∧ Below T w w1
theorem own_fin {z B T M : Nat} {k : Int} {w w1 : World} {av : Option Addr} {nv cv : Nat} {s : Bool} {u v : Value} (hz : Blk w z 55 [u, v]) (hzT : z < T) (hBz : B ≤ z) (hBT : B ≤ T) (ho : Ow w1 T (.slice av nv cv) M) (hb : Below T w w1) (hM : M = k.natAbs) (hs : s = decide (k < 0)) :
    OutPost z B k w (.returned (.pointer (some ⟨z, 0, none⟩))) ((w1.setCell ⟨z, 1, none⟩ (.slice av nv cv)).setCell ⟨z, 0, none⟩ (.bool s)) := by
  have h1 := hz.below hb hzT
  have h2 := h1.set 1 (.slice av nv cv)
  have h3 := h2.set 0 (.bool s)
  have o := (ho.rows (rows_set (i := 1) h1 (.slice av nv cv))).rows (rows_set (i := 0) h2 (.bool s))
  subst hM
  rw [hs] at h3 ⊢
  rw [hs] at o
  exact ⟨rfl, ⟨z, _, rfl, h3.lt, h3, o.nt⟩, ((hb.mono hBT).setCell hBz _).setCell hBz _⟩
set_option maxHeartbeats 3200000 in
theorem addBack_any (r B T : Nat) (q : Option Addr) (R j : Int) (w : World) (hr : BgO w T r R) (hq : Bg w B q j) (hBr : B ≤ r) (hrT : r < T) (hTw : T ≤ w.heap.size) (hR0 : R ≠ 0) (hs : decide (R < 0) = !decide (j < 0)) (hlt : R.natAbs < j.natAbs) (hj : j.natAbs < 18446744073709551616 ^ 39) :
    Calls Tryz.prog 36 #[.pointer (some ⟨r, 0, none⟩), .pointer (some ⟨r, 0, none⟩), .pointer q] w (OutPost r B (R + j) w) := by
  obtain ⟨absR, hkr, hoR⟩ := hr
  obtain ⟨b2, abs2, rfl, hb2, hk2, hn2⟩ := hq
  have hjl : j.natAbs < lim := Nat.lt_of_lt_of_le hj (pow_le_lim 39 (by omega))
  have hnT : Nt w T abs2 j.natAbs := hn2.more (by omega)
  have CMP : Hid (∀ q, Calls Tryz.prog 51 #[absR, abs2] (w.drewN q) fun e w'' => e = .returned (.int .i64 (-1)) ∧ ∃ m, w'' = w.drewN m) := Lib.hid (by
    intro q
    refine (natCmp_any _ _ _ _ (w.drewN q) (hoR.nt.drewN q) ((hnT.more hTw).drewN q) (by omega) hjl).mono ?_
    rintro e w' ⟨rfl, m, rfl⟩
    rw [cmpN_lt hlt]
    exact ⟨rfl, q + m, World.drewN_drewN _ _ _⟩)
  have CMP2 : Hid (∀ k q, Calls Tryz.prog 51 #[absR, abs2] (w.drewN (k + q)) fun e w'' => e = .returned (.int .i64 (-1)) ∧ ∃ m, w'' = w.drewN (k + m)) := Lib.hid (by
    intro k q
    refine (natCmp_any _ _ _ _ (w.drewN (k + q)) (hoR.nt.drewN (k + q)) ((hnT.more hTw).drewN (k + q)) (by omega) hjl).mono ?_
    rintro e w' ⟨rfl, m, rfl⟩
    rw [cmpN_lt hlt]
    exact ⟨rfl, q + m, by rw [World.drewN_drewN, Nat.add_assoc]⟩)
  have C : Hid (∀ W, Qt w W → Calls Tryz.prog 52 #[absR, abs2, absR] W fun e w' => ∃ v, e = .returned v ∧ Ow w' T v (j.natAbs - R.natAbs) ∧ Below T w w') := Lib.hid (by
    rintro W ⟨k, rfl⟩
    obtain ⟨a, n, c, ws, rfl, h2, h3, h4, h5, h6⟩ := hoR
    obtain ⟨xs, rx, hsl⟩ := hnT
    have hn0 : 0 < n := by
      rcases Nat.eq_zero_or_pos n with h | h
      · have := (h2.pos_iff (by omega)).1 (List.length_eq_zero_iff.1 (by omega)); omega
      · exact h
    rcases h6 with ⟨_, h6⟩ | ⟨bz, L0, rfl, k2, ⟨k3, k30⟩, k4, k5⟩
    · omega
    · have hx39 := rx.length_le (by omega) hj
      refine (natSubBack_own xs ws j.natAbs R.natAbs T bz n c abs2 L0 (w.drewN k) rx h2 (hsl.drewN k) (by omega) h3 hn0 h4 h5 k3 (k4.drewN k) k5 k2 hTw (by omega)).mono ?_
      rintro e w' ⟨v, rfl, hv, hb⟩
      exact ⟨v, rfl, hv, (below_drewN (Below.refl _ _) k).trans hb⟩)
  have KEEP : Hid (∀ w1, Below T w w1 → (∃ v, w1.cell? ⟨r, 0, none⟩ = some v) ∧ (∃ v, w1.cell? ⟨r, 1, none⟩ = some v) ∧ w1.frozen? ⟨r, 0, none⟩ = false ∧ w1.frozen? ⟨r, 1, none⟩ = false ∧ r < w1.heap.size) := Lib.hid (by
    intro w1 hb
    have h := hkr.below hb hrT
    exact ⟨⟨_, h.cell 0 (by simp)⟩, ⟨_, h.cell 1 (by simp)⟩, h.free 0, h.free 1, h.lt⟩)
  have FIN : Hid (∀ w1 av nv cv, Ow w1 T (.slice av nv cv) (j.natAbs - R.natAbs) → Below T w w1 → OutPost r B (R + j) w (.returned (.pointer (some ⟨r, 0, none⟩))) ((w1.setCell ⟨r, 1, none⟩ (.slice av nv cv)).setCell ⟨r, 0, none⟩ (.bool (!decide (R < 0))))) := Lib.hid (by
    intro w1 av nv cv ho hb
    refine own_fin hkr hrT hBr (by omega) ho hb ?_ ?_
    · by_cases h1 : R < 0 <;> by_cases h2 : j < 0 <;> simp [h1, h2] at hs <;> omega
    · rw [hs, Bool.not_not]
      rw [decide_eq_decide]
      by_cases h1 : R < 0 <;> by_cases h2 : j < 0 <;> simp [h1, h2] at hs <;> omega)
  obtain ⟨a1, n1, c1, rfl, -⟩ := ow_form hoR
  obtain ⟨a2, n2, c2, rfl, -⟩ : ∃ a n c, abs2 = .slice a n c ∧ True := by
    obtain ⟨xs, _, a, c, h, _⟩ := hn2; exact ⟨a, _, c, h, trivial⟩
  have z0 := hkr.cell 0 (by simp)
  have z1 := hkr.cell 1 (by simp)
  have y0 := hk2.cell 0 (by simp)
  have y1 := hk2.cell 1 (by simp)
  simp only [List.getD_cons_succ, List.getD_cons_zero] at z0 z1 y0 y1
  have hne : ¬ b2 = r := by omega
  have lr := hkr.lt
  have ly := hk2.lt
  obtain ⟨s, hse⟩ : ∃ s, s = decide (j < 0) := ⟨_, rfl⟩
  rw [hs, ← hse] at z0 FIN
  rw [← hse] at y0
  rw [Bool.not_not] at FIN
  have hM : 0 < j.natAbs - R.natAbs := by omega
  have hss : ((!s) == s) = false := by cases s <;> rfl
  clear hkr hoR hk2 hn2 hnT hs hse hR0 hlt hj hjl hb2 hBr hTw hrT
  go_enter Tryz.func36, Tryz.ntmps36
  go_wp2_with fail
  go_quiet (fail)
  go_wp2_with fail
  go_quiet ((go_at_call 51; first | (with_reducible exact CMP.out _) | (with_reducible exact CMP2.out _ _)))
  go_upto_region 1 with fail
  go_cut [] from 65 to 80 (fun wx => OwPut r T (j.natAbs - R.natAbs) w wx)
  case first =>
    clear CMP CMP2 FIN hM
    generalize j.natAbs - R.natAbs = M at *
    go_region_with ((go_at_call 52; refine (C.out _ (by exact ⟨_, rfl⟩)).mono ?_; rintro e w1 ⟨v, rfl, hn, hb⟩; obtain ⟨⟨v0, k0⟩, ⟨v1, k1⟩, f0, f1, l1⟩ := KEEP.out _ hb; obtain ⟨av, nv, cv, rfl, hpos⟩ := ow_form hn; have HP := Lib.hid hpos; have HN := Lib.hid hn; have HB := Lib.hid hb; clear hn hb hpos))
    all_goals (go_wp2_with fail; go_meet; exact ⟨av, nv, cv, w1, rfl, HP.out, HN.out, HB.out⟩)
  case rest =>
    obtain ⟨av, nv, cv, w1, rfl, hpos, hn, hb⟩ := hcut
    obtain ⟨⟨v0, k0⟩, ⟨v1, k1⟩, f0, f1, l1⟩ := KEEP.out _ hb
    have h0 : 0 < nv := hpos.2 hM
    have G := Lib.hid (FIN.out w1 av nv cv hn hb)
    clear FIN hpos hn hb hM C CMP CMP2
    go_wp2_with fail
    go_ret
    exact G.out
/-- the quotient less one, where it is below 0 -/
theorem subOne_start {z b1 b2 c2 T : Nat} {Q : Int} {w0 w : World} (h0 : BgO w0 T z Q) (hb : Below w0.heap.size w0 w) (hz0 : z < w0.heap.size) : BgO w T z Q := by
  obtain ⟨v, h1, h2⟩ := h0
  exact ⟨v, h1.below hb hz0, h2.below hb⟩
set_option maxHeartbeats 3200000 in
theorem subOneNeg_any (z B T b1 b2 c2 : Nat) (Q : Int) (w0 w : World) (h0 : BgO w0 T z Q) (hb0 : Below w0.heap.size w0 w) (hb1 : w0.heap.size ≤ b1) (hb2 : w0.heap.size ≤ b2) (hc2 : 1 ≤ c2) (hk1 : Blk w b1 55 [.bool false, .slice (some ⟨b2, 0, none⟩) (1 : Nat) c2]) (hone : w.cell? ⟨b2, 0, none⟩ = some (.int .u64 1)) (hBz : B ≤ z) (hzT : z < T) (hTw : T ≤ w0.heap.size) (hQ : Q < 0) (hQl : Q.natAbs < lim) :
    Calls Tryz.prog 40 #[.pointer (some ⟨z, 0, none⟩), .pointer (some ⟨z, 0, none⟩), .pointer (some ⟨b1, 0, none⟩)] w (OutPost z B (Q - 1) w) := by
  obtain ⟨absQ, hkz0, hoQ⟩ := h0
  have hkz : Blk w z 55 [.bool (decide (Q < 0)), absQ] := hkz0.below hb0 hkz0.lt
  have hTw' : T ≤ w.heap.size := by have := hb0.size; omega
  have C : Hid (∀ W, Qt w W → Calls Tryz.prog 50 #[absQ, absQ, .slice (some ⟨b2, 0, none⟩) (1 : Nat) c2] W fun e w' => ∃ v, e = .returned v ∧ Ow w' T v (Q.natAbs + 1) ∧ Below T w w') := Lib.hid (by
    rintro W ⟨k, rfl⟩
    obtain ⟨a, n, c, ws, rfl, h2, h3, h4, h5, h6⟩ := hoQ
    have hn0 : 0 < n := by
      rcases Nat.eq_zero_or_pos n with h | h
      · have := (h2.pos_iff (by omega)).1 (List.length_eq_zero_iff.1 (by omega)); omega
      · exact h
    rcases h6 with ⟨_, h6⟩ | ⟨bz, L0, rfl, k2, ⟨k3, k30⟩, k4, k5⟩
    · omega
    · have hl := h2.words_le hQl
      have hlt := k4.lt
      refine (natAdd1_own ws Q.natAbs T bz n c b2 0 c2 L0 (w.drewN k) h2 h3 hn0 (by omega) h4 h5 k3 ((k4.below hb0 hlt).drewN k) k5 k2 hTw' (by omega) hc2 hone).mono ?_
      rintro e w' ⟨v, rfl, hv, hb⟩
      exact ⟨v, rfl, hv, (below_drewN (Below.refl _ _) k).trans hb⟩)
  have KEEP : Hid (∀ w1, Below T w w1 → (∃ v, w1.cell? ⟨z, 0, none⟩ = some v) ∧ (∃ v, w1.cell? ⟨z, 1, none⟩ = some v) ∧ w1.frozen? ⟨z, 0, none⟩ = false ∧ w1.frozen? ⟨z, 1, none⟩ = false ∧ z < w1.heap.size) := Lib.hid (by
    intro w1 hb
    have h := hkz.below hb hzT
    exact ⟨⟨_, h.cell 0 (by simp)⟩, ⟨_, h.cell 1 (by simp)⟩, h.free 0, h.free 1, h.lt⟩)
  have FIN : Hid (∀ w1 av nv cv, Ow w1 T (.slice av nv cv) (Q.natAbs + 1) → Below T w w1 → OutPost z B (Q - 1) w (.returned (.pointer (some ⟨z, 0, none⟩))) ((w1.setCell ⟨z, 1, none⟩ (.slice av nv cv)).setCell ⟨z, 0, none⟩ (.bool true))) := Lib.hid (by
    intro w1 av nv cv ho hb
    exact own_fin hkz hzT hBz (by omega) ho hb (by omega) (by rw [decide_eq_true (by omega)]))
  obtain ⟨a1, n1, c1, rfl, -⟩ := ow_form hoQ
  have z0 := hkz.cell 0 (by simp)
  have z1 := hkz.cell 1 (by simp)
  have y0 := hk1.cell 0 (by simp)
  have y1 := hk1.cell 1 (by simp)
  simp only [List.getD_cons_succ, List.getD_cons_zero] at z0 z1 y0 y1
  have hne : ¬ b1 = z := by have := hkz0.lt; omega
  have lr := hkz.lt
  have ly := hk1.lt
  rw [decide_eq_true hQ] at z0
  clear hkz hkz0 hoQ hk1 hone hb0 hb1 hb2 hBz hTw hTw' hzT hQ hQl hc2
  go_enter Tryz.func40, Tryz.ntmps40
  go_wp2_with fail
  go_quiet (fail)
  go_wp2_with fail
  go_upto_region 1 with fail
  go_cut [] from 21 to 36 (fun wx => OwPut z T (Q.natAbs + 1) w wx)
  case first =>
    clear FIN
    generalize Q.natAbs + 1 = M at *
    go_region_with ((go_at_call 50; refine (C.out _ (by exact ⟨_, rfl⟩)).mono ?_; rintro e w1 ⟨v, rfl, hn, hb⟩; obtain ⟨⟨v0, k0⟩, ⟨v1, k1⟩, f0, f1, l1⟩ := KEEP.out _ hb; obtain ⟨av, nv, cv, rfl, hpos⟩ := ow_form hn; have HP := Lib.hid hpos; have HN := Lib.hid hn; have HB := Lib.hid hb; clear hn hb hpos))
    all_goals (go_wp2_with fail; go_meet; exact ⟨av, nv, cv, w1, rfl, HP.out, HN.out, HB.out⟩)
  case rest =>
    obtain ⟨av, nv, cv, w1, rfl, hpos, hn, hb⟩ := hcut
    obtain ⟨⟨v0, k0⟩, ⟨v1, k1⟩, f0, f1, l1⟩ := KEEP.out _ hb
    have h0 : 0 < nv := hpos.2 (by omega)
    have G := Lib.hid (FIN.out w1 av nv cv hn hb)
    clear FIN hpos hn hb C
    go_wp2_with fail
    go_ret
    exact G.out
set_option maxHeartbeats 3200000 in
theorem subOneZero_any (z B T b1 b2 c2 : Nat) (w0 w : World) (h0 : BgO w0 T z 0) (hb0 : Below w0.heap.size w0 w) (hb1 : w0.heap.size ≤ b1) (hb2 : w0.heap.size ≤ b2) (hc2 : 1 ≤ c2) (hk1 : Blk w b1 55 [.bool false, .slice (some ⟨b2, 0, none⟩) (1 : Nat) c2]) (hone : w.cell? ⟨b2, 0, none⟩ = some (.int .u64 1)) (hBz : B ≤ z) (hzT : z < T) (hTw : T ≤ w0.heap.size) :
    Calls Tryz.prog 40 #[.pointer (some ⟨z, 0, none⟩), .pointer (some ⟨z, 0, none⟩), .pointer (some ⟨b1, 0, none⟩)] w (OutPost z B (-1) w) := by
  obtain ⟨absQ, hkz0, hoQ0⟩ := h0
  have hkz : Blk w z 55 [.bool false, absQ] := hkz0.below hb0 hkz0.lt
  have hoQ : Ow w T absQ 0 := hoQ0.below hb0
  have hTw' : T ≤ w.heap.size := by have := hb0.size; omega
  obtain ⟨a1, n1, c1, rfl, hp1⟩ := ow_form hoQ
  obtain rfl : n1 = 0 := by omega
  have hone' : Nt w w.heap.size (.slice (some ⟨b2, 0, none⟩) (1 : Nat) c2) 1 := ⟨[1], rep_one 1 (by omega) (by omega), _, c2, rfl, by simpa using hc2, fun _ => ⟨b2, 0, rfl, lt_of_cell hone, fun i hi => by
    obtain rfl : i = 0 := by simp at hi; omega
    rw [Nat.add_zero, hone]; rfl⟩⟩
  have h1l : 1 < lim := Nat.lt_of_lt_of_le (by omega) (pow_le_lim 1 (by omega))
  have CMP : Hid (∀ q, Calls Tryz.prog 51 #[.slice a1 0 c1, .slice (some ⟨b2, 0, none⟩) (1 : Nat) c2] (w.drewN q) fun e w'' => e = .returned (.int .i64 (-1)) ∧ ∃ m, w'' = w.drewN m) := Lib.hid (by
    intro q
    refine (natCmp_any _ _ _ _ (w.drewN q) (hoQ.nt.drewN q) (hone'.drewN q) (by omega) h1l).mono ?_
    rintro e w' ⟨rfl, m, rfl⟩
    rw [cmpN_lt (by omega)]
    exact ⟨rfl, q + m, World.drewN_drewN _ _ _⟩)
  have CMP2 : Hid (∀ k q, Calls Tryz.prog 51 #[.slice a1 0 c1, .slice (some ⟨b2, 0, none⟩) (1 : Nat) c2] (w.drewN (k + q)) fun e w'' => e = .returned (.int .i64 (-1)) ∧ ∃ m, w'' = w.drewN (k + m)) := Lib.hid (by
    intro k q
    refine (natCmp_any _ _ _ _ (w.drewN (k + q)) (hoQ.nt.drewN (k + q)) (hone'.drewN (k + q)) (by omega) h1l).mono ?_
    rintro e w' ⟨rfl, m, rfl⟩
    rw [cmpN_lt (by omega)]
    exact ⟨rfl, q + m, by rw [World.drewN_drewN, Nat.add_assoc]⟩)
  have C : Hid (∀ W, Qt w W → Calls Tryz.prog 52 #[.slice a1 0 c1, .slice (some ⟨b2, 0, none⟩) (1 : Nat) c2, .slice a1 0 c1] W fun e w' => ∃ v, e = .returned v ∧ Ow w' T v 1 ∧ Below T w w') := Lib.hid (by
    rintro W ⟨k, rfl⟩
    obtain ⟨a, n, c, ws, hv, h2, h3, h4, h5, h6⟩ := hoQ
    simp only [Value.slice.injEq] at hv
    obtain ⟨rfl, rfl, rfl⟩ := hv
    refine (natSub0_own T c1 b2 0 c2 a1 (w.drewN k) ?_ h5 hTw' hc2 hone).mono ?_
    · rcases h6 with h6 | ⟨bz, L0, ha, k2, k3, k4, k5⟩
      · exact .inl h6
      · exact .inr ⟨bz, L0, ha, k2, k3, k4.drewN k⟩
    · rintro e w' ⟨v, rfl, hv, hb⟩
      exact ⟨v, rfl, hv, (below_drewN (Below.refl _ _) k).trans hb⟩)
  have KEEP : Hid (∀ w1, Below T w w1 → (∃ v, w1.cell? ⟨z, 0, none⟩ = some v) ∧ (∃ v, w1.cell? ⟨z, 1, none⟩ = some v) ∧ w1.frozen? ⟨z, 0, none⟩ = false ∧ w1.frozen? ⟨z, 1, none⟩ = false ∧ z < w1.heap.size) := Lib.hid (by
    intro w1 hb
    have h := hkz.below hb hzT
    exact ⟨⟨_, h.cell 0 (by simp)⟩, ⟨_, h.cell 1 (by simp)⟩, h.free 0, h.free 1, h.lt⟩)
  have FIN : Hid (∀ w1 av nv cv, Ow w1 T (.slice av nv cv) 1 → Below T w w1 → OutPost z B (-1) w (.returned (.pointer (some ⟨z, 0, none⟩))) ((w1.setCell ⟨z, 1, none⟩ (.slice av nv cv)).setCell ⟨z, 0, none⟩ (.bool true))) := Lib.hid (by
    intro w1 av nv cv ho hb
    exact own_fin hkz hzT hBz (by omega) ho hb (by rfl) (by rfl))
  have z0 := hkz.cell 0 (by simp)
  have z1 := hkz.cell 1 (by simp)
  have y0 := hk1.cell 0 (by simp)
  have y1 := hk1.cell 1 (by simp)
  simp only [List.getD_cons_succ, List.getD_cons_zero] at z0 z1 y0 y1
  have hne : ¬ b1 = z := by have := hkz0.lt; omega
  have lr := hkz.lt
  have ly := hk1.lt
  clear hkz hkz0 hoQ hoQ0 hk1 hone hone' hb0 hb1 hb2 hBz hTw hTw' hzT hc2 h1l hp1
  go_enter Tryz.func40, Tryz.ntmps40
  go_wp2_with fail
  go_quiet (fail)
  go_wp2_with fail
  go_quiet ((go_at_call 51; first | (with_reducible exact CMP.out _) | (with_reducible exact CMP2.out _ _)))
  go_upto_region 1 with fail
  go_cut [] from 65 to 80 (fun wx => OwPut z T 1 w wx)
  case first =>
    clear CMP CMP2 FIN
    go_region_with ((go_at_call 52; refine (C.out _ (by exact ⟨_, rfl⟩)).mono ?_; rintro e w1 ⟨v, rfl, hn, hb⟩; obtain ⟨⟨v0, k0⟩, ⟨v1, k1⟩, f0, f1, l1⟩ := KEEP.out _ hb; obtain ⟨av, nv, cv, rfl, hpos⟩ := ow_form hn; have HP := Lib.hid hpos; have HN := Lib.hid hn; have HB := Lib.hid hb; clear hn hb hpos))
    all_goals (go_wp2_with fail; go_meet; exact ⟨av, nv, cv, w1, rfl, HP.out, HN.out, HB.out⟩)
  case rest =>
    obtain ⟨av, nv, cv, w1, rfl, hpos, hn, hb⟩ := hcut
    obtain ⟨⟨v0, k0⟩, ⟨v1, k1⟩, f0, f1, l1⟩ := KEEP.out _ hb
    have h0 : 0 < nv := hpos.2 (by omega)
    have G := Lib.hid (FIN.out w1 av nv cv hn hb)
    clear FIN hpos hn hb C CMP CMP2
    go_wp2_with fail
    go_ret
    exact G.out
end Go.Proofs.YtpcnmgldmnncoaaGreatDoor
