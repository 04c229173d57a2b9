/- nat.make, nat.set, nat.norm, (*Int).Set with a receiver that has no words yet. -/
import Derived.Test.YtoggalnjjhcmkaaGreatBigNew
import Derived.Laws.MakeOwn
import Derived.Laws.CopyOwn
namespace Go.Proofs.YtoggalnjjhcmkaaGreat
open Go.RowKit Dig
set_option linter.unusedVariables false
set_option linter.unusedSimpArgs false
set_option maxRecDepth 100000

/-- so many times a value -/
def zs (z : Value) (c : Nat) : List Value := List.replicate c z
theorem zs_length (z : Value) (c : Nat) : (zs z c).length = c := by simp [zs]
theorem infoW : (Tryz.prog.info? 233).map (fun i => (i.zero, i.size, i.bytes)) = some (some (.int .u64 0), 1, 8) := by kernel_rfl
theorem made_zs (z : Value) (c : Nat) : madeCells #[z] c = (zs z c).toArray := by
  have := toList_madeCells_one z c
  unfold zs
  rw [← this]
theorem run_mk {P : Program} (t e : TypeId) (z : Value) (bytes : Nat) (ht : P.underlying t = some (.slice e)) (hinfo : (P.info? e).map (fun i => (i.zero, i.size, i.bytes)) = some (some z, 1, bytes)) (hz1 : z.cells = #[z])
    (l c : Nat) (hlc : l ≤ c) (hbytes : bytes * c ≤ 281474976710656) (h63 : c ≤ 9223372036854775807) (w : World) :
    (Instr.makeSlice t (.int .i64 (l : Int)) (.int .i64 (c : Int))).run P w = .ok (.slice (some ⟨w.heap.size, 0, none⟩) l c) (w.alloc (.cells (zs z c).toArray e)) := by
  obtain ⟨i, hi, hzz⟩ := Option.map_eq_some_iff.1 hinfo
  simp only [Prod.mk.injEq] at hzz
  obtain ⟨hz, hs, hb⟩ := hzz
  have hb' : (i.bytes : Int) * (c : Int) ≤ 281474976710656 := by
    have h : ((i.bytes * c : Nat) : Int) ≤ 281474976710656 := by rw [hb]; omega
    rwa [Int.natCast_mul] at h
  have hr := run_make (P := P) w t e i z ht hi hz .i64 .i64 l c (by omega) (by omega) hb' (by omega)
  simp only [Int.toNat_natCast, hs, Nat.mul_one, hz1, made_zs] at hr
  exact hr

def MakePost (n : Nat) (w : World) (e : Ending) (w' : World) : Prop :=
  ∃ c, n ≤ c ∧ c ≤ n + 4 ∧ e = .returned (.slice (some ⟨w.heap.size, 0, none⟩) n c) ∧ w' = w.alloc (.cells (zs (.int .u64 0) c).toArray 233)
theorem make_zero (w : World) : Calls Tryz.prog 166 #[.slice none 0 0, .int .i64 0] w fun e w' => e = .returned (.slice none 0 0) ∧ w = w' := by
  go_enter Tryz.func166, Tryz.ntmps166
  go_wp2
  go_ret
  exact ⟨rfl, rfl⟩
theorem make_any (n : Nat) (w : World) (h0 : 0 < n) (hn : n ≤ 1099511627776) : Calls Tryz.prog 166 #[.slice none 0 0, .int .i64 n] w (MakePost n w) := by
  by_cases h1 : n = 1
  · subst h1
    have hmk := fun w => run_mk (P := Tryz.prog) 182 233 (.int .u64 0) 8 Tryz.underlying182 infoW rfl 1 1 (by omega) (by omega) (by omega) w
    simp only [Int.natCast_one] at hmk ⊢
    go_enter Tryz.func166, Tryz.ntmps166
    go_wp2
    go_ret
    exact ⟨1, by omega, by omega, rfl, rfl⟩
  · have hmk := fun w => run_mk (P := Tryz.prog) 182 233 (.int .u64 0) 8 Tryz.underlying182 infoW rfl n (n + 4) (by omega) (by omega) (by omega) w
    have e4 : ((n + 4 : Nat) : Int) = (n : Int) + 4 := by omega
    rw [e4] at hmk
    clear e4
    have hne : ((n : Int) == 1) = false := by simp; omega
    go_enter Tryz.func166, Tryz.ntmps166
    go_wp2
    go_ret
    exact ⟨n + 4, by omega, by omega, rfl, rfl⟩

/-- set: a copy -/
def SetPost (vs : List Value) (w : World) (e : Ending) (w' : World) : Prop := ∃ v, e = .returned v ∧ Sl w' w'.heap.size v vs ∧ Below w.heap.size w w'
set_option maxHeartbeats 400000 in
theorem set_any (xs : List Nat) (x : Value) (w : World) (hx : Sl w w.heap.size x (xs.map wv)) (hl : xs.length ≤ 1099511627776) : Calls Tryz.prog 151 #[.slice none 0 0, x] w (SetPost (xs.map wv) w) := by
  obtain ⟨a, c, rfl, hc, hr⟩ := hx
  simp only [List.length_map, ne_eq, List.map_eq_nil_iff] at hc hr ⊢
  by_cases h0 : xs = []
  · subst h0
    clear hr
    go_enter Tryz.func151, Tryz.ntmps151
    go_wp2_with fail
    refine (make_zero _).mono ?_
    rintro e w' ⟨rfl, rfl⟩
    go_wp2_with (with_reducible refine wpList_copy_nothing rfl (.tmp 9) (.tmp 10) 182 182 rfl 233 Tryz.underlying182 (by kernel_rfl) _ _ _ _ _ _ rfl rfl rfl ?_)
    go_wp2
    go_ret
    exact ⟨_, rfl, Sl.nil _ _, Below.refl _ _⟩
  · obtain ⟨b, o, rfl, hb, hrd⟩ := hr h0
    have hp : 0 < xs.length := List.length_pos_iff.2 h0
    have R := Lib.hid hrd
    clear hr hrd
    go_enter Tryz.func151, Tryz.ntmps151
    go_wp2_with fail
    refine (make_any _ _ hp hl).mono ?_
    rintro e w' ⟨c', hc1, hc2, rfl, rfl⟩
    have hk := Lib.hid (Blk.new w 233 (zs (.int .u64 0) c'))
    have hcp : Hid (∀ j v, (xs.map wv)[j]? = some v → (w.alloc (.cells (zs (.int .u64 0) c').toArray 233)).cell? ((⟨b, o, none⟩ : Addr).add j) = some v) := by
      intro j v hj
      have hlt : j < (xs.map wv).length := by
        rcases Nat.lt_or_ge j (xs.map wv).length with h | h
        · exact h
        · rw [List.getElem?_eq_none h] at hj; cases hj
      have := (R.out.below ((Below.refl _ w).alloc (Nat.le_refl _) (.cells (zs (.int .u64 0) c').toArray 233)) hb) j hlt
      rw [add_zero_off, this, List.getD_eq_getElem?_getD, hj]; rfl
    have hlz := zs_length (.int .u64 0) c'
    obtain ⟨cs, hcs⟩ : ∃ cs, cs = xs.map wv := ⟨_, rfl⟩
    have hcsl : cs.length = xs.length := by rw [hcs]; simp
    have HCS := Lib.hid hcs
    rw [← hcs] at hcp
    have h1c : ∀ u ∈ cs, u.oneCell' = true := by rw [hcs]; exact oneCell_wv xs
    clear hcs
    have P2 := Lib.hid (show cs.length = Nat.min xs.length xs.length by rw [hcsl]; simp)
    have P3 := Lib.hid (show 0 + cs.length ≤ (zs (.int .u64 0) c').length by omega)
    have P4 := Lib.hid h1c
    have P5 := Lib.hid ((Below.refl w.heap.size w).alloc (Nat.le_refl _) (.cells (zs (.int .u64 0) c').toArray 233))
    clear h1c
    go_wp2_with (refine wpList_copy_splice (o := ⟨some 11, _, _, _, _, _⟩) rfl (.tmp 9) (.tmp 10) 182 182 rfl 233 Tryz.underlying182 (by kernel_rfl) _ _ _ _ _ _ rfl rfl w.heap.size 0 (zs (.int .u64 0) c') 233 hk.out cs P2.out (fun _ => ⟨rfl, _, rfl, hcp.out⟩) P3.out P4.out w.heap.size w P5.out (Nat.le_refl _) ?_; intro w4 hg4 hb4; have HB4 := Lib.hid hb4; clear hb4)
    go_ret
    refine ⟨_, rfl, ?_, HB4.out⟩
    have hk4 : Blk w4 w.heap.size 233 (splice (zs (.int .u64 0) c') 0 cs) := hg4.out
    have e1 : splice (zs (.int .u64 0) c') 0 cs = cs ++ (zs (.int .u64 0) c').drop cs.length := by simp [splice]
    rw [e1] at hk4
    have e2 : xs.length = (xs.map wv).length := by simp
    rw [← HCS.out] at e2
    rw [← HCS.out, e2]
    exact Sl.mk (hk4.rd (by simp) (fun i hi => by rw [Nat.zero_add, List.getD_eq_getElem?_getD, List.getD_eq_getElem?_getD, List.getElem?_append_left hi])) (by omega) hk4.lt
end Go.Proofs.YtoggalnjjhcmkaaGreat
