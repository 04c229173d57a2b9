/- (*Int).BitLen, low64, Int64, SetBytes, Neg; isSmall, MakeBigInt; impl.whole: an impl.Val as an integer of the package. (*Int).SetBytes, Neg, impl.whole: an impl.Val as an integer of the package. -/
import Derived.Test.YtoojgjhfmmohbaaGreatLen
import Derived.Test.YtoojgjhfmmohbaaGreatMNew
namespace Go.Proofs.YtoojgjhfmmohbaaGreat
open Go.RowKit Dig
set_option linter.unusedVariables false
set_option linter.unusedSimpArgs false
set_option maxRecDepth 100000
theorem low64_any (m : Nat) (v : Value) (w : World) (hs : Nt w w.heap.size v m) (hm : m < 18446744073709551616) : Calls Tryz.prog 62 #[v] w fun e w' => e = .returned (.int .u64 m) ∧ w = w' := by
 obtain ⟨xs, hrep, hs⟩ := hs
 have hl : xs.length ≤ 1 := hrep.length_le (k := 1) (by omega) (by simpa using hm)
 obtain ⟨a, c, rfl, hc, hr⟩ := hs
 simp only [List.length_map, ne_eq, List.map_eq_nil_iff] at hc hr ⊢
 by_cases h0 : xs = []
 · subst h0
   have : m = 0 := ((hrep.pos_iff (by omega)).1 rfl)
   subst this
   clear hr hrep
   go_enter Tryz.func62, Tryz.ntmps62
   go_wp2_with fail
   go_ret
   exact ⟨rfl, rfl⟩
 · obtain ⟨b, o, rfl, hb, hrd⟩ := hr h0
   match xs, h0, hl with
   | [x], _, _ =>
     have e : x = m := by have := hrep.val; simpa [nval] using this
     subst e
     have hcell := hrd 0 (by simp)
     simp only [List.map_cons, List.map_nil, List.getD_cons_zero, Nat.add_zero, wv] at hcell
     clear hr hrd hrep
     simp only [List.length_cons, List.length_nil, Nat.zero_add] at hc ⊢
     go_enter Tryz.func62, Tryz.ntmps62
     go_wp2_with fail
     go_ret
     exact ⟨rfl, rfl⟩
theorem Int64_any (p : Option Addr) (i : Int) (w : World) (h : Bg w w.heap.size p i) (hl : i.natAbs < 9223372036854775808) : Calls Tryz.prog 55 #[.pointer p] w fun e w' => e = .returned (.int .i64 i) ∧ w = w' := by
 obtain ⟨b, abs, rfl, hb, hk, hn⟩ := h
 have x0 : w.cell? ⟨b, 0, none⟩ = some (.bool (decide (i < 0))) := hk.cell 0 (by simp)
 have x1 : w.cell? ⟨b, 1, none⟩ = some abs := hk.cell 1 (by simp)
 have CORE := Li (low64_any _ abs w hn (by omega))
 obtain ⟨m, hm⟩ : ∃ m, m = i.natAbs := ⟨_, rfl⟩
 rw [← hm] at CORE hl
 have HM : Hid (i = if i < 0 then -(m : Int) else m) := Li (by split <;> omega)
 clear hk hn hm
 by_cases h2 : i < 0
 · rw [decide_eq_true h2] at x0
   rw [if_pos h2] at HM
   clear h2
   go_enter Tryz.func55, Tryz.ntmps55
   go_wp2_with fail
   refine CORE.out.mono ?_
   rintro e w' ⟨rfl, rfl⟩
   go_wp2_with fail
   go_ret
   exact ⟨congrArg (fun z => Ending.returned (.int .i64 z)) HM.out.symm, rfl⟩
 · rw [decide_eq_false h2] at x0
   rw [if_neg h2] at HM
   clear h2
   go_enter Tryz.func55, Tryz.ntmps55
   go_wp2_with fail
   refine CORE.out.mono ?_
   rintro e w' ⟨rfl, rfl⟩
   go_wp2_with fail
   go_ret
   exact ⟨congrArg (fun z => Ending.returned (.int .i64 z)) HM.out.symm, rfl⟩
theorem Dig.Bytes.bval {ms : List Nat} {m : Nat} (h : Bytes ms m) : Dig.bval ms = m := Rep.val h
set_option maxHeartbeats 800000 in
theorem SetBytes_any (z : Nat) (m : Nat) (buf : Value) (w : World) (hz : Blk w z 200 [.bool false, .slice none 0 0]) (hs : By w w.heap.size buf m) (hl : m < lim) :
   Calls Tryz.prog 53 #[.pointer (some ⟨z, 0, none⟩), buf] w (PutPost z (m : Int) w) := by
 obtain ⟨ms, hm, hs⟩ := hs
 have hlen := hm.length_le hl
 have z0 : w.cell? ⟨z, 0, none⟩ = some (.bool false) := hz.cell 0 (by simp)
 have z1 : w.cell? ⟨z, 1, none⟩ = some (.slice none 0 0) := hz.cell 1 (by simp)
 have g0 := hz.free 0
 have g1 := hz.free 1
 have hzl := hz.lt
 have C := setBytes_any ms buf w hm.lt hs (by omega)
 rw [hm.bval] at C
 have CORE := Li C
 have HZ := Li hz
 clear hs hm hz hlen C
 go_enter Tryz.func53, Tryz.ntmps53
 go_wp2_with fail
 refine CORE.out.mono ?_
 rintro e w1 ⟨v, rfl, ⟨xs, hr, hs1⟩, hb1⟩
 have y0 : w1.cell? ⟨z, 0, none⟩ = some (.bool false) := (hb1.cell (p := ⟨z, 0, none⟩) hzl).trans z0
 have y1 : w1.cell? ⟨z, 1, none⟩ = some (.slice none 0 0) := (hb1.cell (p := ⟨z, 1, none⟩) hzl).trans z1
 have f0 : w1.frozen? ⟨z, 0, none⟩ = false := (hb1.frozen (p := ⟨z, 0, none⟩) hzl).trans g0
 have f1 : w1.frozen? ⟨z, 1, none⟩ = false := (hb1.frozen (p := ⟨z, 1, none⟩) hzl).trans g1
 have F := Li (put_fin (i := (m : Int)) HZ.out rfl (by simp [wv]) hr hs1 hb1)
 obtain ⟨av, cv, rfl, hcv, hrv⟩ := id hs1
 rw [show decide ((m : Int) < 0) = false by simp] at F
 clear hrv hs1 hb1 hr
 rw [List.length_map] at F
 go_wp2
 go_ret
 exact F.out
end Go.Proofs.YtoojgjhfmmohbaaGreat
