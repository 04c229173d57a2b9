/- (*Int).Set with a fresh receiver; (starlark.Int).get, BigInt. -/
import Derived.Test.YtoggalnjjhcmkaaGreatNat1
import Derived.Test.YtoggalnjjhcmkaaGreatPtr
import Derived.Deep.RegionWith
namespace Go.Proofs.YtoggalnjjhcmkaaGreat
open Go.RowKit Dig
set_option linter.unusedVariables false
set_option linter.unusedSimpArgs false
set_option maxRecDepth 100000

theorem infoBg : (Tryz.prog.info? 184).map (·.size) = some 2 := by kernel_rfl
theorem infoBg' : ∃ i, Tryz.prog.info? 184 = some i ∧ i.size ≠ 0 := by
  obtain ⟨i, hi, hs⟩ := Option.map_eq_some_iff.1 infoBg
  exact ⟨i, hi, by omega⟩

/-- what is behind a pointer now: an integer, in a block that was there -/
def PutPost (b : Nat) (i : Int) (w : World) (e : Ending) (w' : World) : Prop :=
  e = .returned (.pointer (some ⟨b, 0, none⟩)) ∧ Bg w' w'.heap.size (some ⟨b, 0, none⟩) i ∧ Up (some b) w w'

/-- what stands behind a pointer once words and sign are laid -/
theorem put_fin {w w1 : World} {z : Nat} {i : Int} {xs : List Nat} {v : Value} {L : List Value} (hz : Blk w z 184 L) (hL : L.length = 2) (hd : ∀ u ∈ L, ∀ m, u ≠ wv m) (hr : Rep 18446744073709551616 xs i.natAbs) (hs : Sl w1 w1.heap.size v (xs.map wv)) (hb : Below w.heap.size w w1) :
    PutPost z i w (.returned (.pointer (some ⟨z, 0, none⟩))) ((w1.setCell ⟨z, 1, none⟩ v).setCell ⟨z, 0, none⟩ (.bool (decide (i < 0)))) := by
  have hk := hz.below hb hz.lt
  have k1 := hk.set 1 v
  have k2 := k1.set 0 (.bool (decide (i < 0)))
  match L, hL with
  | [p, q], _ =>
    obtain ⟨a, c, rfl, _, _⟩ := id hs
    have s1 := hs.far hk (not_wv hd xs) 1 (.slice a (xs.map wv).length c)
    have s2 := s1.far k1 (not_wv (by
      intro u hu m
      simp only [List.set_cons_succ, List.set_cons_zero, List.mem_cons, List.not_mem_nil, or_false] at hu
      rcases hu with rfl | rfl
      · exact hd _ (by simp) m
      · simp [wv]) xs) 0 (.bool (decide (i < 0)))
    refine ⟨rfl, ⟨z, _, rfl, ?_, k2, xs, hr, ?_⟩, ((Up.of_below hb).set 1 _).set 0 _⟩
    · have := hk.lt; simpa [World.setCell] using this
    · simpa [World.setCell] using s2

set_option maxHeartbeats 800000 in
theorem Set_any (z : Nat) (p : Option Addr) (i : Int) (w : World) (hz : Blk w z 184 [.bool false, .slice none 0 0]) (hx : Bg w w.heap.size p i) (hne : p ≠ some ⟨z, 0, none⟩) (hl : i.natAbs < lim) :
    Calls Tryz.prog 131 #[.pointer (some ⟨z, 0, none⟩), .pointer p] w (PutPost z i w) := by
  obtain ⟨b, abs, rfl, hb, hk, xs, hr, hs⟩ := hx
  have hne' : ¬ z = b := fun h => hne (by rw [h])
  have hne2 : ¬ b = z := fun h => hne (by rw [h])
  have hxl : xs.length ≤ 512 := hr.words_le hl
  have z0 : w.cell? ⟨z, 0, none⟩ = some (.bool false) := hz.cell 0 (by simp)
  have z1 : w.cell? ⟨z, 1, none⟩ = some (.slice none 0 0) := hz.cell 1 (by simp)
  have x0 : w.cell? ⟨b, 0, none⟩ = some (.bool (decide (i < 0))) := hk.cell 0 (by simp)
  have x1 : w.cell? ⟨b, 1, none⟩ = some abs := hk.cell 1 (by simp)
  have g0 := hz.free 0
  have g1 := hz.free 1
  have hzl := hz.lt
  obtain ⟨ib, hib, hibs⟩ := infoBg'
  have hpe := run_neq_ptr_other (P := Tryz.prog) (w := w) Tryz.underlying116 hib hibs hne' hz hk
  have HZ := Lib.hid hz
  have HK := Lib.hid hk
  have HS := Lib.hid hs
  have HR := Lib.hid hr
  clear hz hk hs hr hne hl
  go_enter Tryz.func131, Tryz.ntmps131
  go_wp2
  have hsd : Hid (Sl w.drew w.drew.heap.size abs (xs.map wv)) := HS.out
  go_region_with (go_at_call 151; refine (set_any xs abs _ hsd.out (by omega)).mono ?_; rintro e w1 ⟨v, rfl, hs1, hb1⟩; obtain ⟨av, cv, rfl, hcv, hrv⟩ := id hs1; clear hrv; have y0 : w1.cell? ⟨z, 0, none⟩ = some (.bool false) := (hb1.cell (p := ⟨z, 0, none⟩) hzl).trans z0; have y1 : w1.cell? ⟨z, 1, none⟩ = some (.slice none 0 0) := (hb1.cell (p := ⟨z, 1, none⟩) hzl).trans z1; have f0 : w1.frozen? ⟨z, 0, none⟩ = false := (hb1.frozen (p := ⟨z, 0, none⟩) hzl).trans g0; have f1 : w1.frozen? ⟨z, 1, none⟩ = false := (hb1.frozen (p := ⟨z, 1, none⟩) hzl).trans g1; have q0 : w1.cell? ⟨b, 0, none⟩ = some (.bool (decide (i < 0))) := (hb1.cell (p := ⟨b, 0, none⟩) hb).trans x0; have HS1 := Lib.hid hs1; have HB1 := Lib.hid hb1; clear hs1 hb1)
  all_goals
    go_wp2
    go_ret
    exact put_fin HZ.out rfl (by simp [wv]) HR.out (by have h := HS1.out; rwa [List.length_map] at h) (((Below.refl _ w).drew).trans HB1.out)

/-- get: the two parts of an integer -/
def GetPost (s : Int) (p : Option Addr) (w : World) (e : Ending) (w' : World) : Prop := e = .returned (.tuple #[.int .i64 s, .pointer p]) ∧ Below w.heap.size w w'
theorem get_any (s : Int) (p : Option Addr) (w : World) : Calls Tryz.prog 121 #[.agg #[.int .i64 s, .pointer p]] w (GetPost s p w) := by
  go_enter Tryz.func121, Tryz.ntmps121
  go_wp2
  go_quiet (fail)
  go_wp2
  go_ret2
  exact ⟨rfl, below_drewN ((Below.refl _ _).alloc (Nat.le_refl _) _) _⟩

/-- a copy of an integer into a block that the caller has just laid -/
theorem Set_new (p : Option Addr) (i : Int) (w : World) (hx : Bg w w.heap.size p i) (hl : i.natAbs < lim) :
    Calls Tryz.prog 131 #[.pointer (some ⟨w.heap.size, 0, none⟩), .pointer p] (w.alloc (.cells #[.bool false, .slice none 0 0] 184)) fun e w' => e = .returned (.pointer (some ⟨w.heap.size, 0, none⟩)) ∧ Bg w' w'.heap.size (some ⟨w.heap.size, 0, none⟩) i ∧ Below w.heap.size w w' := by
  have hne : p ≠ some ⟨w.heap.size, 0, none⟩ := by
    obtain ⟨b, abs, rfl, hb, _⟩ := hx
    intro h; injection h with h; injection h with h; omega
  refine (Set_any w.heap.size p i _ (Blk.new w 184 [.bool false, .slice none 0 0]) ((hx.below ((Below.refl _ _).alloc (Nat.le_refl _) _)).more (by simp)) hne hl).mono ?_
  rintro e w' ⟨rfl, hb, hu⟩
  exact ⟨rfl, hb, ((Below.refl _ w).alloc (Nat.le_refl _) _).trans (hu.below (by simp) (fun k hk => Nat.le_of_eq (Option.some.inj hk)))⟩

set_option maxHeartbeats 800000 in
theorem BigInt_any (v : Value) (i : Int) (w : World) (hv : In w w.heap.size v i) (hl : i.natAbs < lim) : Calls Tryz.prog 103 #[v] w (BgPost i w) := by
  obtain ⟨s, p, rfl, h⟩ := hv
  rcases h with ⟨rfl, rfl, h1, h2⟩ | ⟨rfl, h1, h2⟩
  · go_enter Tryz.func103, Tryz.ntmps103
    go_wp2_with fail
    refine (get_any _ _ _).mono ?_
    rintro e w1 ⟨rfl, h1⟩
    have H1 := Lib.hid h1; clear h1
    go_wp2_with fail
    refine (newInt_any _ _ (by omega) (by omega)).mono ?_
    rintro e w2 ⟨q, rfl, hb, hw⟩
    have HB := Lib.hid hb
    have HW := Lib.hid hw
    clear hb hw
    go_wp2_with fail
    go_ret
    have hb := ((Below.refl w.heap.size w).alloc (Nat.le_refl _) (.cells #[.int .i64 s, .pointer none] 120)).trans (H1.out.mono (by simp))
    exact ⟨q, rfl, HB.out, hb.trans (HW.out.mono hb.size)⟩
  · obtain ⟨b, abs, rfl, hb, hk, hn⟩ := id h2
    have H2 := Lib.hid h2
    clear hb hk hn h2
    go_enter Tryz.func103, Tryz.ntmps103
    go_wp2_with fail
    refine (get_any _ _ _).mono ?_
    rintro e w1 ⟨rfl, h1⟩
    have hb1 : Below w.heap.size w w1 := ((Below.refl w.heap.size w).alloc (Nat.le_refl _) (.cells #[.int .i64 0, .pointer (some ⟨b, 0, none⟩)] 120)).trans (h1.mono (by simp))
    have HB1 := Lib.hid hb1
    clear h1 hb1
    go_wp2_with fail
    refine (Set_new _ i w1 ((H2.out.below HB1.out).more HB1.out.size) hl).mono ?_
    rintro e w2 ⟨rfl, hb2, hw2⟩
    have HB2 := Lib.hid hb2
    have HW2 := Lib.hid hw2
    clear hb2 hw2
    go_wp2_with fail
    go_ret
    exact ⟨_, rfl, HB2.out, HB1.out.trans (HW2.out.mono HB1.out.size)⟩
end Go.Proofs.YtoggalnjjhcmkaaGreat
