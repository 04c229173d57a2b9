/- (nat).mul: the product of nats, a new row. -/
import Derived.Test.YtpcnmgldmnncoaaGreatDoorBasicMul
import Derived.Test.YtpcnmgldmnncoaaGreatDoorAddOwn
import Derived.Test.YtpcnmgldmnncoaaGreatDoorMMath
namespace Go.Proofs.YtpcnmgldmnncoaaGreatDoor
open Go.RowKit Dig
set_option linter.unusedVariables false
set_option linter.unusedSimpArgs false
set_option maxRecDepth 100000

theorem alias_none (a : Option Addr) (n c : Nat) (w : World) : Calls Tryz.prog 81 #[.slice none 0 0, .slice a n c] w fun e w' => e = .returned (.bool false) ∧ ∃ k, w' = w.drewN k := by
  go_enter Tryz.func81, Tryz.ntmps81
  go_wp2_with fail
  go_quiet (fail)
  go_wp2_with fail
  go_ret
  exact ⟨rfl, _, rfl⟩
set_option maxHeartbeats 1600000 in
theorem mulWW_new (xs : List Nat) (X y b1 o1 m c1 : Nat) (w : World) (rx : Rep 18446744073709551616 xs X) (lx : xs.length = m) (hm0 : 0 < m) (hm : m ≤ 1000) (hc1 : m ≤ c1) (hy0 : 0 < y) (hy : y < 18446744073709551616) (hb1 : b1 < w.heap.size) (hr1 : ∀ i, i < m → w.cell? ⟨b1, o1 + i, none⟩ = some (.int .u64 ((xs.getD i 0 : Nat) : Int))) :
    Calls Tryz.prog 93 #[.slice none 0 0, .slice (some ⟨b1, o1, none⟩) m c1, .int .u64 (y : Int), .int .u64 0] w (OwPost w.heap.size (X * y) w) := by
  have CM := Lib.hid (make_any (m + 1) w (by omega) (by omega))
  rw [show ((m + 1 : Nat) : Int) = (m : Int) + 1 by omega] at CM
  have hXl := rx.val_lt
  rw [lx] at hXl
  have hS : X * y < 18446744073709551616 ^ (m + 1) := by
    rw [Nat.pow_succ]
    exact Nat.mul_lt_mul_of_lt_of_le hXl (Nat.le_of_lt hy) (by omega)
  have Q1 : Hid (∀ c w1, m + 1 ≤ c → c ≤ m + 5 → w1 = w.alloc (.cells (zs (.int .u64 0) c).toArray 79) → Calls Tryz.prog 107 #[.slice (some ⟨w.heap.size, 0, none⟩) m c, .slice (some ⟨b1, o1, none⟩) m c1, .int .u64 (y : Nat), .int .u64 0] w1 fun e w2 => e = .returned (.int .u64 ((X * y / 18446744073709551616 ^ m : Nat) : Int)) ∧ (∃ v, w2.cell? ⟨w.heap.size, m, none⟩ = some v) ∧ w2.frozen? ⟨w.heap.size, m, none⟩ = false ∧ w.heap.size < w2.heap.size ∧ Calls Tryz.prog 56 #[.slice (some ⟨w.heap.size, 0, none⟩) (m + 1) c] (w2.setCell ⟨w.heap.size, m, none⟩ (.int .u64 ((X * y / 18446744073709551616 ^ m : Nat) : Int))) (OwPost w.heap.size (X * y) w)) := Lib.hid (by
    rintro c w1 hc hc5 rfl
    have hb1 : Below w.heap.size w (w.alloc (.cells (zs (.int .u64 0) c).toArray 79)) := (Below.refl _ _).alloc (Nat.le_refl _) _
    have hk := Blk.new w 79 (zs (.int .u64 0) c)
    have hzl : (zs (.int .u64 0) c).length = c := zs_length _ _
    have h := mulAddVWW_any xs y 0 (zs (.int .u64 0) c) w.heap.size 0 m c c1 (some ⟨b1, o1, none⟩) _ lx hc1 rx.lt hy (by omega) hk (by omega) (by omega) (fun _ => ⟨b1, o1, rfl, fun wr k hk1 hb hu => by
      have h1 := (hb1.cell (p := ⟨b1, o1 + k, none⟩) ‹b1 < w.heap.size›).trans (hr1 k hk1)
      have h2 := lt_of_cell h1
      have h3 := (World.cell?_of_block (a := ⟨b1, o1 + k, none⟩) (hu.block b1 h2 (by intro e; injection e with e; omega))).trans h1
      exact ⟨h3, lt_of_cell h3⟩⟩)
    rw [rx.val, Nat.add_zero, Int.ofNat_zero] at h
    refine h.mono ?_
    rintro e w2 ⟨rfl, h1, h2⟩
    have hl2 : (splice (zs (.int .u64 0) c) 0 ((dgs 18446744073709551616 m (X * y)).map wv)).length = c := by rw [length_splice _ _ _ (by simp [dgs_length]; omega)]; exact hzl
    refine ⟨rfl, ⟨_, h1.cell m (by omega)⟩, h1.free m, h1.lt, ?_⟩
    have h3 := h1.set m (wv (X * y / 18446744073709551616 ^ m))
    have e1 := splice_set (zs (.int .u64 0) c) 0 m ((dgs 18446744073709551616 m (X * y)).map wv) (wv (X * y / 18446744073709551616 ^ m)) (by simp [dgs_length]) (by omega)
    rw [Nat.zero_add] at e1
    have e2 := dgs_top m (X * y) hS
    have e5 : (dgs 18446744073709551616 m (X * y)).map wv ++ [wv (X * y / 18446744073709551616 ^ m)] = (dgs 18446744073709551616 (m + 1) (X * y)).map wv := by rw [← e2]; simp
    rw [e1, e5] at h3
    refine (norm_own (H := w.heap.size) _ h3 hzl hc (by omega) (by omega) hS (Nat.le_refl _)).mono ?_
    rintro e w' ⟨v, rfl, hv, rfl⟩
    exact ⟨_, rfl, hv, (hb1.trans (h2.below (by simp) (fun k hk => by injection hk with hk; omega))).setCell (Nat.le_refl _) _⟩)
  have hz : ((m : Int) == 0) = false := by rw [beq_eq_false_iff_ne]; omega
  have hyz : ((y : Int) == 0) = false := by rw [beq_eq_false_iff_ne]; omega
  have g0 : (0 : Int) ≤ (m : Int) := by omega
  have g1 : (m : Int) < (m : Int) + 1 := by omega
  clear rx lx hr1 hXl hS
  generalize X * y / 18446744073709551616 ^ m = cr at *
  go_enter Tryz.func93, Tryz.ntmps93
  go_wp2_with fail
  with_reducible refine CM.out.mono ?_
  rintro e w1 ⟨c, hc1', hc2', rfl, hw1⟩
  have C2 := Lib.hid (Q1.out c w1 hc1' (by omega) hw1)
  have g2 : (m : Int) ≤ (c : Int) := by omega
  clear hw1 Q1 CM
  go_wp2_with fail
  with_reducible refine C2.out.mono ?_
  rintro e w2 ⟨rfl, ⟨v0, k0⟩, f0, l0, hn⟩
  have HN := Lib.hid hn
  clear hn C2
  go_wp2_with fail
  with_reducible refine HN.out.mono ?_
  rintro e w3 ⟨v, rfl, h1, h2⟩
  have H1 := Lib.hid h1
  have H2 := Lib.hid h2
  clear h1 h2
  go_wp2_with fail
  go_ret
  exact ⟨_, rfl, H1.out, H2.out⟩
set_option maxHeartbeats 3200000 in
/-- the first number has as many words as the second, or more -/
theorem natMulGe (xs ys : List Nat) (X Y : Nat) (x y : Value) (w : World) (rx : Rep 18446744073709551616 xs X) (ry : Rep 18446744073709551616 ys Y) (hx : Sl w w.heap.size x (xs.map wv)) (hy : Sl w w.heap.size y (ys.map wv)) (hge : ys.length ≤ xs.length) (lx : xs.length ≤ 600) (ly : ys.length < 40)
    (hthr : w.cell? ⟨3, 0, none⟩ = some (.int .i64 40)) :
    Calls Tryz.prog 70 #[.slice none 0 0, .pointer none, x, y] w (OwPost w.heap.size (X * Y) w) := by
  obtain ⟨a1, c1, rfl, hc1, hr1⟩ := id hx
  obtain ⟨a2, c2, rfl, hc2, hr2⟩ := id hy
  simp only [List.length_map] at hx hy hc1 hc2 ⊢
  obtain ⟨m, hm⟩ : ∃ m, m = xs.length := ⟨_, rfl⟩
  obtain ⟨n, hn⟩ : ∃ n, n = ys.length := ⟨_, rfl⟩
  rw [← hm] at hx hc1 hge lx ⊢
  rw [← hn] at hy hc2 hge ly ⊢
  have z1 : ¬ (m : Int) < (n : Int) := by omega
  by_cases hn0 : n = 0
  · subst hn0
    have hY : Y = 0 := (ry.pos_iff (by omega)).1 (List.length_eq_zero_iff.1 hn.symm)
    subst hY
    rw [Nat.mul_zero]
    clear hx hy hr1 hr2 rx ry hthr hm hn
    by_cases hm0 : m = 0
    · subst hm0
      go_enter Tryz.func70, Tryz.ntmps70
      go_wp2_with fail
      go_ret
      exact ⟨_, rfl, Ow.zero _ _, Below.refl _ _⟩
    · have hz : ((m : Int) == 0) = false := by rw [beq_eq_false_iff_ne]; omega
      go_enter Tryz.func70, Tryz.ntmps70
      go_wp2_with fail
      go_ret
      exact ⟨_, rfl, Ow.zero _ _, Below.refl _ _⟩
  · have hz1 : ((m : Int) == 0) = false := by rw [beq_eq_false_iff_ne]; omega
    have hz2 : ((n : Int) == 0) = false := by rw [beq_eq_false_iff_ne]; omega
    obtain ⟨b1, o1, rfl, hb1, hrd1⟩ := hr1 (by intro h; rw [List.map_eq_nil_iff] at h; subst h; simp at hm; omega)
    obtain ⟨b2, o2, rfl, hb2, hrd2⟩ := hr2 (by intro h; rw [List.map_eq_nil_iff] at h; subst h; simp at hn; omega)
    have hcx : ∀ i, i < m → w.cell? ⟨b1, o1 + i, none⟩ = some (.int .u64 ((xs.getD i 0 : Nat) : Int)) := fun i hi => by
      have := hrd1 i (by simp; omega)
      rwa [getD_map_wv _ _ (by omega)] at this
    have hcy : ∀ i, i < n → w.cell? ⟨b2, o2 + i, none⟩ = some (.int .u64 ((ys.getD i 0 : Nat) : Int)) := fun i hi => by
      have := hrd2 i (by simp; omega)
      rwa [getD_map_wv _ _ (by omega)] at this
    by_cases hn1 : n = 1
    · subst hn1
      obtain ⟨y0, rfl⟩ := List.length_eq_one_iff.1 hn.symm
      have hy0 : Y = y0 := by rw [← ry.val]; simp [nval]
      subst hy0
      have q2 := hcy 0 (by omega)
      rw [show ([Y].getD 0 0) = Y from rfl, Nat.add_zero] at q2
      have hYp : 0 < Y := by
        rcases Nat.eq_zero_or_pos Y with h | h
        · exfalso
          have := (ry.pos_iff (by omega)).2 h
          simp at this
        · exact h
      have C := Lib.hid (mulWW_new xs X Y b1 o1 m c1 w rx hm.symm (by omega) (by omega) hc1 hYp (ry.lt Y (by simp)) hb1 hcx)
      clear hx hy hr1 hr2 rx ry hthr hm hn hrd1 hrd2 hcx hcy hYp
      go_enter Tryz.func70, Tryz.ntmps70
      go_wp2_with fail
      with_reducible refine C.out.mono ?_
      rintro e w3 ⟨v, rfl, h1, h2⟩
      have H1 := Lib.hid h1
      have H2 := Lib.hid h2
      clear h1 h2
      go_wp2_with fail
      go_ret
      exact ⟨_, rfl, H1.out, H2.out⟩
    · have hz3 : ((n : Int) == 1) = false := by rw [beq_eq_false_iff_ne]; omega
      obtain ⟨N, hN⟩ : ∃ N, N = m + n := ⟨_, rfl⟩
      have CA1 := Lib.hid (fun W => alias_none (some ⟨b1, o1, none⟩) m c1 W)
      have CA2 := Lib.hid (fun W => alias_none (some ⟨b2, o2, none⟩) n c2 W)
      have CM := Lib.hid (fun W => make_any N W (by omega) (by omega))
      have e1 : (m : Int) + (n : Int) = (N : Int) := by omega
      have hS : X * Y < 18446744073709551616 ^ N := by
        have h1 := rx.val_lt
        have h2 := ry.val_lt
        rw [← hm] at h1
        rw [← hn] at h2
        rw [hN, Nat.pow_add]
        exact Nat.mul_lt_mul_of_lt_of_le h1 (Nat.le_of_lt h2) (Nat.pow_pos (by omega))
      have Q1 : Hid (∀ q c w1, N ≤ c → c ≤ N + 4 → w1 = (w.drewN q).alloc (.cells (zs (.int .u64 0) c).toArray 79) → w1.cell? ⟨3, 0, none⟩ = some (.int .i64 40) ∧ 3 < w1.heap.size ∧ Calls Tryz.prog 90 #[.slice (some ⟨w.heap.size, 0, none⟩) N c, .slice (some ⟨b1, o1, none⟩) m c1, .slice (some ⟨b2, o2, none⟩) n c2] w1 fun e w2 => e = .returned (.tuple #[]) ∧ Calls Tryz.prog 56 #[.slice (some ⟨w.heap.size, 0, none⟩) N c] w2 (OwPost w.heap.size (X * Y) w)) := Lib.hid (by
        rintro q c w1 hc hc5 rfl
        have hb1' : Below w.heap.size w ((w.drewN q).alloc (.cells (zs (.int .u64 0) c).toArray 79)) := (below_drewN (Below.refl _ _) q).alloc (Nat.le_refl _) _
        have hk : Blk ((w.drewN q).alloc (.cells (zs (.int .u64 0) c).toArray 79)) w.heap.size 79 (zs (.int .u64 0) c) := Blk.new (w.drewN q) _ _
        have hzl : (zs (.int .u64 0) c).length = c := zs_length _ _
        have hg0 := lt_of_cell hthr
        have hth1 : ((w.drewN q).alloc (.cells (zs (.int .u64 0) c).toArray 79)).cell? ⟨3, 0, none⟩ = some (.int .i64 40) := (hb1'.cell (p := ⟨3, 0, none⟩) hg0).trans hthr
        refine ⟨hth1, lt_of_cell hth1, ?_⟩
        refine (basicMul_any xs ys (zs (.int .u64 0) c) w.heap.size m n N c c1 c2 b1 o1 b2 o2 _ hm.symm hn.symm hN (by omega) (by omega) hc hc1 hc2 rx.lt ry.lt hk (by omega) (by omega) (by omega) (by omega) (fun i hi => (hb1'.cell (p := ⟨b1, o1 + i, none⟩) hb1).trans (hcx i hi)) (fun i hi => (hb1'.cell (p := ⟨b2, o2 + i, none⟩) hb2).trans (hcy i hi))).mono ?_
        rintro e w2 ⟨rfl, h1, h2⟩
        rw [rx.val, ry.val] at h1
        refine ⟨rfl, ?_⟩
        refine (norm_own (H := w.heap.size) _ h1 hzl hc (by omega) (by omega) hS (Nat.le_refl _)).mono ?_
        rintro e w' ⟨v, rfl, hv, rfl⟩
        exact ⟨_, rfl, hv, hb1'.trans (h2.below hb1'.size (fun k hk => by injection hk with hk; omega))⟩)
      have g40 : (n : Int) < 40 := by omega
      clear hx hy hr1 hr2 rx ry hthr hm hn hrd1 hrd2 hcx hcy hN hS
      go_enter Tryz.func70, Tryz.ntmps70
      go_wp2_with fail
      with_reducible refine (CA1.out _).mono ?_
      rintro e w' ⟨rfl, k1, rfl⟩
      go_wp2_with fail
      with_reducible refine (CA2.out _).mono ?_
      rintro e w' ⟨rfl, k2, rfl⟩
      rw [World.drewN_drewN]
      generalize k1 + k2 = kk
      clear CA1 CA2
      go_wp2_with fail
      with_reducible refine (CM.out _).mono ?_
      rintro e w1 ⟨c, h1, h2, rfl, hw1⟩
      obtain ⟨t1, t2, t3⟩ := Q1.out kk c w1 h1 h2 hw1
      have T3 := Lib.hid t3
      clear hw1 Q1 CM t3
      go_wp2_with fail
      with_reducible refine T3.out.mono ?_
      rintro e w2 ⟨rfl, hn⟩
      have HN := Lib.hid hn
      clear hn T3 t1 t2
      go_wp2_with fail
      with_reducible refine HN.out.mono ?_
      rintro e w3 ⟨v, rfl, h1, h2⟩
      have H1 := Lib.hid h1
      have H2 := Lib.hid h2
      clear h1 h2
      go_wp2_with fail
      go_ret
      exact ⟨_, rfl, H1.out, H2.out⟩
set_option maxHeartbeats 800000 in
theorem natMul_any (X Y : Nat) (x y : Value) (w : World) (hx : Nt w w.heap.size x X) (hy : Nt w w.heap.size y Y) (hX : X < lim) (hY : Y < lim) (h40 : X < 18446744073709551616 ^ 39 ∨ Y < 18446744073709551616 ^ 39)
    (hthr : w.cell? ⟨3, 0, none⟩ = some (.int .i64 40)) :
    Calls Tryz.prog 70 #[.slice none 0 0, .pointer none, x, y] w (OwPost w.heap.size (X * Y) w) := by
  obtain ⟨xs, rx, hx⟩ := hx
  obtain ⟨ys, ry, hy⟩ := hy
  have lx := rx.words_le hX
  have ly := ry.words_le hY
  by_cases hge : ys.length ≤ xs.length
  · have l40 : ys.length < 40 := by
      rcases h40 with h | h
      · have := rx.length_le (by omega) h; omega
      · have := ry.length_le (by omega) h; omega
    exact natMulGe xs ys X Y x y w rx ry hx hy hge (by omega) l40 hthr
  · have l40 : xs.length < 40 := by
      rcases h40 with h | h
      · have := rx.length_le (by omega) h; omega
      · have := ry.length_le (by omega) h; omega
    have C := Lib.hid (natMulGe ys xs Y X y x w ry rx hy hx (by omega) (by omega) l40 hthr)
    rw [Nat.mul_comm] at C
    obtain ⟨a1, c1, rfl, hc1, hr1⟩ := id hx
    obtain ⟨a2, c2, rfl, hc2, hr2⟩ := id hy
    simp only [List.length_map] at hc1 hc2 C ⊢
    have hlt : xs.length < ys.length := by omega
    clear hx hy hr1 hr2 rx ry hthr h40 hge
    generalize xs.length = m at *
    generalize ys.length = n at *
    have z1 : (m : Int) < (n : Int) := by omega
    go_enter Tryz.func70, Tryz.ntmps70
    go_wp2_with fail
    with_reducible refine C.out.mono ?_
    rintro e w3 ⟨v, rfl, h1, h2⟩
    have H1 := Lib.hid h1
    have H2 := Lib.hid h2
    clear h1 h2
    go_wp2_with fail
    go_ret
    exact ⟨_, rfl, H1.out, H2.out⟩
end Go.Proofs.YtpcnmgldmnncoaaGreatDoor
