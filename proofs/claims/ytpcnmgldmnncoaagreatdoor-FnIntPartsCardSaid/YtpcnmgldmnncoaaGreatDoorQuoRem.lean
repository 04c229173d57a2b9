/- (*Int).QuoRem: quotient and rest into two new numbers. -/
import Derived.Test.YtpcnmgldmnncoaaGreatDoorMNatDiv
import Derived.Test.YtpcnmgldmnncoaaGreatDoorMMath
import Derived.Test.YtpcnmgldmnncoaaGreatDoorMNew
import Derived.Deep.RegionHeld3
import Derived.BigRegion
namespace Go.Proofs.YtpcnmgldmnncoaaGreatDoor
open Go.RowKit Dig
set_option linter.unusedVariables false
set_option linter.unusedSimpArgs false
set_option maxRecDepth 100000

/-- behind the division: both numbers without their signs -/
def QrMid (z r H T Q R : Nat) (w wx : World) : Prop := ∃ (a1 : Option Addr) (n1 c1 : Nat) (a2 : Option Addr) (n2 c2 : Nat), Blk wx z 55 [.bool false, .slice a1 n1 c1] ∧ Blk wx r 55 [.bool false, .slice a2 n2 c2] ∧ Ow wx T (.slice a1 n1 c1) Q ∧ Ow wx T (.slice a2 n2 c2) R ∧ Below H w wx
def QrPost (z r H T : Nat) (i j : Int) (w : World) (e : Ending) (w' : World) : Prop := e = .returned (.tuple #[.pointer (some ⟨z, 0, none⟩), .pointer (some ⟨r, 0, none⟩)]) ∧ BgO w' T z (i.tdiv j) ∧ BgO w' T r (i.tmod j) ∧ Below H w w'
theorem QrPost.drew {z r H T : Nat} {i j : Int} {w w' : World} {e : Ending} (h : QrPost z r H T i j w e w') : QrPost z r H T i j w e w'.drew := by
  obtain ⟨h1, h2, h3, h4⟩ := h
  exact ⟨h1, h2.drewN 1, h3.drewN 1, below_drewN h4 1⟩
set_option maxHeartbeats 3200000 in
theorem quoRem_any (z r H : Nat) (p q : Option Addr) (i j : Int) (w : World) (hz : Blk w z 55 [.bool false, .slice none 0 0]) (hr : Blk w r 55 [.bool false, .slice none 0 0]) (hzr : z ≠ r) (hHz : H ≤ z) (hHr : H ≤ r)
    (hp : Bg w H p i) (hq : Bg w H q j) (hi : i.natAbs < lim) (hj0 : j ≠ 0) (hj : j.natAbs < 18446744073709551616 ^ 39) (hgl : 0 < H) (hthr : w.cell? ⟨0, 0, none⟩ = some (.int .i64 40)) :
    Calls Tryz.prog 35 #[.pointer (some ⟨z, 0, none⟩), .pointer p, .pointer q, .pointer (some ⟨r, 0, none⟩)] w (QrPost z r H w.heap.size i j w) := by
  obtain ⟨b1, abs1, rfl, hb1, hk1, hn1⟩ := hp
  obtain ⟨b2, abs2, rfl, hb2, hk2, hn2⟩ := hq
  have hHw : H ≤ w.heap.size := by have := hz.lt; omega
  have CD : Hid (∀ k, Calls Tryz.prog 49 #[.slice none 0 0, .pointer none, .slice none 0 0, abs1, abs2] (w.drewN k) (DivPost (i.natAbs / j.natAbs) (i.natAbs % j.natAbs) (w.drewN k))) := Lib.hid (fun k => natDiv_any i.natAbs j.natAbs abs1 abs2 (w.drewN k) ((hn1.more hHw).drewN k) ((hn2.more hHw).drewN k) hi (by omega) hj (by show _ < w.heap.size; omega) hthr)
  obtain ⟨av1, nv1, cv1, rfl, _⟩ : ∃ a n c, abs1 = .slice a n c ∧ True := by
    obtain ⟨xs, _, a, c, h, _⟩ := hn1; exact ⟨a, _, c, h, trivial⟩
  obtain ⟨av2, nv2, cv2, rfl, _⟩ : ∃ a n c, abs2 = .slice a n c ∧ True := by
    obtain ⟨xs, _, a, c, h, _⟩ := hn2; exact ⟨a, _, c, h, trivial⟩
  obtain ⟨s1, hs1⟩ : ∃ s, s = decide (i < 0) := ⟨_, rfl⟩
  obtain ⟨s2, hs2⟩ : ∃ s, s = decide (j < 0) := ⟨_, rfl⟩
  rw [← hs1] at hk1
  rw [← hs2] at hk2
  have z1 := hz.cell 1 (by simp)
  have r1 := hr.cell 1 (by simp)
  have x1 := hk1.cell 1 (by simp)
  have y1 := hk2.cell 1 (by simp)
  simp only [List.getD_cons_succ, List.getD_cons_zero] at z1 r1 x1 y1
  have lz := hz.lt
  have lr := hr.lt
  have lx := hk1.lt
  have ly := hk2.lt
  have QQ := Int.natAbs_tdiv i j
  have RR := Int.natAbs_tmod i j
  have KEEP : Hid (∀ k w1, Below (w.drewN k).heap.size (w.drewN k) w1 → (∃ v, w1.cell? ⟨z, 1, none⟩ = some v) ∧ (∃ v, w1.cell? ⟨r, 1, none⟩ = some v) ∧ w1.frozen? ⟨z, 1, none⟩ = false ∧ w1.frozen? ⟨r, 1, none⟩ = false ∧ z < w1.heap.size ∧ r < w1.heap.size) := Lib.hid (by
    intro k w1 hb
    have h1 := (hz.drewN k).below hb lz
    have h2 := (hr.drewN k).below hb lr
    exact ⟨⟨_, h1.cell 1 (by simp)⟩, ⟨_, h2.cell 1 (by simp)⟩, h1.free 1, h2.free 1, h1.lt, h2.lt⟩)
  have MID : Hid (∀ k w1 a1 n1 c1 a2 n2 c2, Below (w.drewN k).heap.size (w.drewN k) w1 → Ow w1 w.heap.size (.slice a1 n1 c1) (i.natAbs / j.natAbs) → Ow w1 w.heap.size (.slice a2 n2 c2) (i.natAbs % j.natAbs) → QrMid z r H w.heap.size (i.natAbs / j.natAbs) (i.natAbs % j.natAbs) w ((w1.setCell ⟨z, 1, none⟩ (.slice a1 n1 c1)).setCell ⟨r, 1, none⟩ (.slice a2 n2 c2))) := Lib.hid (by
    intro k w1 a1 n1 c1 a2 n2 c2 hb ho1 ho2
    have h1 := ((hz.drewN k).below hb lz).set 1 (.slice a1 n1 c1)
    have h2 := ((hr.drewN k).below hb lr).far (p := ⟨z, 1, none⟩) (fun e => hzr e.symm) (.slice a1 n1 c1)
    have ho1' := ho1.rows (rows_set (i := 1) ((hz.drewN k).below hb lz) (.slice a1 n1 c1))
    have ho2' := ho2.rows (rows_set (i := 1) ((hz.drewN k).below hb lz) (.slice a1 n1 c1))
    refine ⟨a1, n1, c1, a2, n2, c2, h1.far (p := ⟨r, 1, none⟩) hzr _, h2.set 1 _, ho1'.rows (rows_set h2 _), ho2'.rows (rows_set h2 _), ?_⟩
    have hbH : Below H w w1 := (below_drewN (Below.refl _ _) k).trans (hb.mono (by show H ≤ w.heap.size; omega))
    exact (hbH.setCell hHz _).setCell hHr _)
  have x0 := hk1.cell 0 (by simp)
  have y0 := hk2.cell 0 (by simp)
  simp only [List.getD_cons_zero] at x0 y0
  have HS1 := Lib.hid hs1
  have HS2 := Lib.hid hs2
  have HQQ := Lib.hid QQ
  have HRR := Lib.hid RR
  have HK1 := Lib.hid hk1
  have HK2 := Lib.hid hk2
  have HJ0 := Lib.hid hj0
  clear hs1 hs2 QQ RR hk1 hk2 hz hr hn1 hn2 hi hj0 hj hgl hthr
  go_enter Tryz.func35, Tryz.ntmps35
  go_upto_region 1 with fail
  go_cut [] from 11 to 35 (fun wx => QrMid z r H w.heap.size (i.natAbs / j.natAbs) (i.natAbs % j.natAbs) w wx)
  case first =>
    clear HQQ HRR HS1 HS2 HK1 HK2 HJ0 x0 y0 hHz hHr hHw hb1 hb2
    generalize i.natAbs / j.natAbs = Q at *
    generalize i.natAbs % j.natAbs = R at *
    go_region_law (first | (go_simp; go_at_call 49; refine (CD.out _).mono ?_; rintro e w1 ⟨qv, rv, rfl, ho1, ho2, hb⟩; obtain ⟨⟨k0, k1⟩, ⟨k2, k3⟩, f0, f1, lz1, lr1⟩ := KEEP.out _ _ hb; obtain ⟨a1, n1, c1, rfl, hp1⟩ := ow_form ho1; obtain ⟨a2, n2, c2, rfl, hp2⟩ := ow_form ho2; have HM := Lib.hid (MID.out _ _ _ _ _ _ _ _ hb ho1 ho2); clear hb ho1 ho2 hp1 hp2))
    all_goals (go_wp2_with fail; go_meet; exact HM.out)
  case rest =>
    obtain ⟨a1, n1, c1, a2, n2, c2, hz, hr, ho1, ho2, hb⟩ := hcut
    have zc1 := hz.cell 1 (by simp)
    have rc1 := hr.cell 1 (by simp)
    have zc0 := hz.cell 0 (by simp)
    have rc0 := hr.cell 0 (by simp)
    have zf := hz.free 0
    have rf := hr.free 0
    have zl := hz.lt
    have rl := hr.lt
    have xc0 := (HK1.out.below hb hb1).cell 0 (by simp)
    have yc0 := (HK2.out.below hb hb2).cell 0 (by simp)
    have xl := (HK1.out.below hb hb1).lt
    have yl := (HK2.out.below hb hb2).lt
    simp only [List.getD_cons_succ, List.getD_cons_zero] at zc1 rc1 zc0 rc0 xc0 yc0
    obtain ⟨_, n1', _, hv1, hp1⟩ := ow_form ho1
    obtain ⟨_, n2', _, hv2, hp2⟩ := ow_form ho2
    simp only [Value.slice.injEq] at hv1 hv2
    obtain ⟨-, rfl, -⟩ := hv1
    obtain ⟨-, rfl, -⟩ := hv2
    have FIN : Hid (∀ (t1 t2 : Bool), t1 = (decide (0 < n1) && (s1 != s2)) → t2 = (decide (0 < n2) && s1) → QrPost z r H w.heap.size i j w (.returned (.tuple #[.pointer (some ⟨z, 0, none⟩), .pointer (some ⟨r, 0, none⟩)])) ((wc.setCell ⟨z, 0, none⟩ (.bool t1)).setCell ⟨r, 0, none⟩ (.bool t2))) := Lib.hid (by
      intro t1 t2 h1 h2
      have e1 : t1 = decide (i.tdiv j < 0) := by rw [h1, tdiv_neg_iff, HS1.out, HS2.out, decide_eq_decide.2 hp1]
      have e2 : t2 = decide (i.tmod j < 0) := by rw [h2, tmod_neg_iff, HS1.out, decide_eq_decide.2 hp2]
      have k1 := hz.set 0 (.bool t1)
      have k2 := hr.far (p := ⟨z, 0, none⟩) (fun e => hzr e.symm) (.bool t1)
      have o1 := (ho1.rows (rows_set (i := 0) hz (.bool t1))).rows (rows_set (i := 0) k2 (.bool t2))
      have o2 := (ho2.rows (rows_set (i := 0) hz (.bool t1))).rows (rows_set (i := 0) k2 (.bool t2))
      refine ⟨rfl, ⟨.slice a1 n1 c1, ?_, ?_⟩, ⟨.slice a2 n2 c2, ?_, ?_⟩, (hb.setCell hHz _).setCell hHr _⟩
      · rw [← e1]; exact k1.far (p := ⟨r, 0, none⟩) hzr _
      · rw [tdiv_abs]; exact o1
      · rw [← e2]; exact k2.set 0 _
      · rw [tmod_abs]; exact o2)
    clear HK1 HK2 HJ0 hz hr ho1 ho2 hb hp1 hp2 KEEP MID CD x0 y0 z1 r1 x1 y1 lz lr lx ly HQQ HRR HS1 HS2
    by_cases hn1 : 0 < n1
    · have hg1 : (0 : Int) < (n1 : Int) := by omega
      have hd1 : decide (0 < n1) = true := decide_eq_true hn1
      rw [hd1] at FIN
      by_cases hn2 : 0 < n2
      · have hg2 : (0 : Int) < (n2 : Int) := by omega
        have hd2 : decide (0 < n2) = true := decide_eq_true hn2
        rw [hd2] at FIN
        have F := Lib.hid (FIN.out _ _ rfl rfl)
        clear FIN hd1 hd2
        go_wp2_with fail
        go_big_region
        go_wp2_with fail
        go_ret2
        exact F.out.drew
      · obtain rfl : n2 = 0 := by omega
        have F := Lib.hid (FIN.out _ _ rfl rfl)
        clear FIN hd1 hn2
        go_wp2_with fail
        go_big_region
        go_wp2_with fail
        go_ret2
        exact F.out.drew
    · obtain rfl : n1 = 0 := by omega
      by_cases hn2 : 0 < n2
      · have hg2 : (0 : Int) < (n2 : Int) := by omega
        have hd2 : decide (0 < n2) = true := decide_eq_true hn2
        rw [hd2] at FIN
        have F := Lib.hid (FIN.out _ _ rfl rfl)
        clear FIN hd2 hn1
        go_wp2_with fail
        go_big_region
        go_wp2_with fail
        go_ret2
        exact F.out.drew
      · obtain rfl : n2 = 0 := by omega
        have F := Lib.hid (FIN.out _ _ rfl rfl)
        clear FIN hn2 hn1
        go_wp2_with fail
        go_big_region
        go_wp2_with fail
        go_ret2
        exact F.out.drew
end Go.Proofs.YtpcnmgldmnncoaaGreatDoor
