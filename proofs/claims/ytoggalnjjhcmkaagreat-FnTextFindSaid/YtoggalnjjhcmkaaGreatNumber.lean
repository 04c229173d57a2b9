/- (*Int).Sign, (*Int).Bytes, impl.number: an integer of the package as an impl.Val. -/
import Derived.Test.YtoggalnjjhcmkaaGreatNatBytes
import Derived.Test.YtoggalnjjhcmkaaGreatIntSet
namespace Go.Proofs.YtoggalnjjhcmkaaGreat
open Go.RowKit Dig
set_option linter.unusedVariables false
set_option linter.unusedSimpArgs false
set_option maxRecDepth 100000

/-- -1, 0, 1 -/
def sgn (i : Int) : Int := if i < 0 then -1 else if i = 0 then 0 else 1
theorem Sign_any (p : Option Addr) (i : Int) (w : World) (h : Bg w w.heap.size p i) (hl : i.natAbs < lim) : Calls Tryz.prog 104 #[.pointer p] w fun e w' => e = .returned (.int .i64 (sgn i)) ∧ w = w' := by
  obtain ⟨b, abs, rfl, hb, hk, xs, hr, a, c, rfl, hc, hs⟩ := h
  have hxl := hr.words_le hl
  have x0 : w.cell? ⟨b, 0, none⟩ = some (.bool (decide (i < 0))) := hk.cell 0 (by simp)
  have x1 : w.cell? ⟨b, 1, none⟩ = some (.slice a (xs.map wv).length c) := hk.cell 1 (by simp)
  have hpos := hr.pos_iff (by omega)
  simp only [List.length_map] at x1
  clear hs hk hc
  by_cases h0 : xs = []
  · have h1 : i = 0 := by have := hpos.1 h0; omega
    subst h0 h1
    clear hpos hr
    go_enter Tryz.func104, Tryz.ntmps104
    go_wp2
    go_ret
    exact ⟨rfl, rfl⟩
  · have hp : 0 < xs.length := List.length_pos_iff.2 h0
    have h1 : ¬ i = 0 := fun h => h0 (hpos.2 (by omega))
    have hne : ((xs.length : Int) == 0) = false := by simp; omega
    clear hpos hr h0
    by_cases h2 : i < 0
    · have e : sgn i = -1 := by simp [sgn, h2]
      rw [e]
      rw [decide_eq_true h2] at x0
      clear e
      go_enter Tryz.func104, Tryz.ntmps104
      go_wp2
      go_ret
      exact ⟨rfl, rfl⟩
    · have e : sgn i = 1 := by simp [sgn, h2, h1]
      rw [e]
      rw [decide_eq_false h2] at x0
      clear e
      go_enter Tryz.func104, Tryz.ntmps104
      go_wp2
      go_ret
      exact ⟨rfl, rfl⟩

theorem info8' : (Tryz.prog.info? 5).map (fun i => (i.zero, i.size, i.bytes)) = some (some (.int .u8 0), 1, 1) := by kernel_rfl
def ByPost (m : Nat) (w : World) (e : Ending) (w' : World) : Prop := ∃ v, e = .returned v ∧ By w' w'.heap.size v m ∧ Below w.heap.size w w'
set_option maxHeartbeats 800000 in
theorem Bytes_any (p : Option Addr) (i : Int) (w : World) (h : Bg w w.heap.size p i) (hl : i.natAbs < lim) : Calls Tryz.prog 105 #[.pointer p] w (ByPost i.natAbs w) := by
  obtain ⟨b, abs, rfl, hb, hk, xs, hr, hs⟩ := h
  have hxl := hr.words_le hl
  obtain ⟨a, c, rfl, hc, hrd⟩ := id hs
  simp only [List.length_map] at hk hs hc
  have x1 : w.cell? ⟨b, 1, none⟩ = some (.slice a xs.length c) := hk.cell 1 (by simp)
  have hmk := fun w => run_mk (P := Tryz.prog) 22 5 (.int .u8 0) 1 Tryz.underlying22 info8' rfl (8 * xs.length) (8 * xs.length) (by omega) (by omega) (by omega) w
  have e4 : ((8 * xs.length : Nat) : Int) = (xs.length : Int) * 8 := by omega
  rw [e4] at hmk
  clear e4 hrd hk
  obtain ⟨N, hN⟩ : ∃ N, N = 8 * xs.length := ⟨_, rfl⟩
  rw [← hN] at hmk
  have core : Calls Tryz.prog 133 #[.slice a xs.length c, .slice (some ⟨w.heap.size, 0, none⟩) N N] (w.alloc (.cells (zs (.int .u8 0) N).toArray 5)) (BytesPost w.heap.size N i.natAbs (w.alloc (.cells (zs (.int .u8 0) N).toArray 5))) := by
    have := bytes_any xs (.slice a xs.length c) w.heap.size N w.heap.size (w.alloc (.cells (zs (.int .u8 0) N).toArray 5)) hr.lt (hs.below ((Below.refl _ _).alloc (Nat.le_refl _) _)) (by simp) (Nat.le_refl _) hN (by omega) (Blk.new _ _ _)
    rwa [hr.val] at this
  have CORE := Lib.hid core
  have fin : ∀ (k : Nat) (w' : World), Blk w' w.heap.size 5 (((dgs 256 N i.natAbs).reverse).map bv) → k ≤ N → (∀ j, j < k → ((dgs 256 N i.natAbs).reverse).getD j 0 = 0) → (k = N ∨ ((dgs 256 N i.natAbs).reverse).getD k 0 ≠ 0) →
      Bytes (((dgs 256 N i.natAbs).reverse).drop k) i.natAbs ∧ Sl w' w'.heap.size (.slice (some ⟨w.heap.size, k, none⟩) (N - k) (N - k)) ((((dgs 256 N i.natAbs).reverse).drop k).map bv) := by
    intro k w' hb hk hz hn
    have hlb : ((dgs 256 N i.natAbs).reverse).length = N := by simp [dgs_length]
    constructor
    · have h1 := cut_bytes ((dgs 256 N i.natAbs).reverse) (fun x hx => dgs_lt 256 (by omega) N i.natAbs x (by simpa using hx)) k (by omega) hz (by rw [hlb]; exact hn)
      have h2 : bval ((dgs 256 N i.natAbs).reverse) = i.natAbs := by
        unfold bval
        rw [List.reverse_reverse, dgs_val_of]
        have := hr.val_lt
        rw [pow_words] at this
        rwa [hN]
      rwa [h2] at h1
    · have h1 := Sl.mk (w := w') (b := w.heap.size) (o := k) (B := w'.heap.size) (vs := (((dgs 256 N i.natAbs).reverse).drop k).map bv) (c := N - k) (hb.rd (by simp [dgs_length]; omega) (fun j hj => by
        simp [List.getD_eq_getElem?_getD])) (by simp [dgs_length]) hb.lt
      simpa [dgs_length] using h1
  have FIN := Lib.hid fin
  have HN : Hid (8 * xs.length = N) := hN.symm
  clear core fin hs hr hN
  go_enter Tryz.func105, Tryz.ntmps105
  go_wp2_with fail
  refine CORE.out.mono ?_
  rintro e w1 ⟨k, rfl, hkN, hb1, hu1, hz1, hn1⟩
  have F := Lib.hid (FIN.out k w1 hb1 hkN hz1 hn1)
  have HB := Lib.hid (show Below w.heap.size w w1 from ((Below.refl _ w).alloc (Nat.le_refl _) _).trans (hu1.below (by simp) (fun q hq => Nat.le_of_eq (Option.some.inj hq))))
  clear hb1 hu1 hz1 hn1
  by_cases hkk : k = N
  · subst hkk
    go_wp2_with fail
    go_ret
    refine ⟨_, rfl, ⟨[], ?_, ?_⟩, HB.out⟩
    · have := F.out.1
      rwa [List.drop_of_length_le (by simp [dgs_length])] at this
    · exact Sl.empty _ _ _ _
  · have hk2 : ¬ N = k := fun h => hkk h.symm
    go_wp2_with fail
    go_ret
    exact ⟨_, rfl, ⟨_, F.out.1, F.out.2⟩, HB.out⟩

def VaPost (i : Int) (w : World) (e : Ending) (w' : World) : Prop := ∃ v, e = .returned v ∧ Va w' w'.heap.size v i ∧ Below w.heap.size w w'
/-- the zero value of an impl.Val -/
def zeroVal : List Value := [.int .i64 0, .bool false, .slice none 0 0, .int .u64 0, .string ByteArray.empty, .slice none 0 0]
/-- an impl.Val of the kind Int stored into a variable of its own -/
theorem Va.store {w w2 : World} {b : Nat} {neg : Bool} {mag : Value} {i : Int} (h : By w2 w2.heap.size mag i.natAbs) (hneg : neg = decide (i < 0)) (hk : Blk w2 b 26 zeroVal) (hb : Below w.heap.size w w2) (hlt : w.heap.size ≤ b) :
    VaPost i w (.returned (.agg #[.int .i64 2, .bool neg, mag, .int .u64 0, .string ByteArray.empty, .slice none 0 0]))
      ((((((w2.setCell ⟨b, 0, none⟩ (.int .i64 2)).setCell ⟨b, 1, none⟩ (.bool neg)).setCell ⟨b, 2, none⟩ mag).setCell ⟨b, 3, none⟩ (.int .u64 0)).setCell ⟨b, 4, none⟩ (.string ByteArray.empty)).setCell ⟨b, 5, none⟩ (.slice none 0 0)) := by
  subst hneg
  obtain ⟨ms, hm, hs⟩ := h
  have hmag : ∀ m, mag ≠ bv m := by
    obtain ⟨a, c, rfl, _⟩ := hs
    intro m; simp [bv]
  refine ⟨_, rfl, ⟨mag, rfl, ms, hm, ?_⟩, ?_⟩
  · have s0 := hs.far hk (not_bv (by simp [zeroVal, bv]) ms) 0 (.int .i64 2)
    have k0 := hk.set 0 (.int .i64 2)
    have s1 := s0.far k0 (not_bv (by simp [zeroVal, bv]) ms) 1 (.bool (decide (i < 0)))
    have k1 := k0.set 1 (.bool (decide (i < 0)))
    have s2 := s1.far k1 (not_bv (by simp [zeroVal, bv]) ms) 2 mag
    have k2 := k1.set 2 mag
    have s3 := s2.far k2 (not_bv (by
      intro u hu m
      simp only [zeroVal, List.set_cons_zero, List.set_cons_succ, List.mem_cons, List.not_mem_nil, or_false] at hu
      rcases hu with rfl | rfl | rfl | rfl | rfl | rfl
      · simp [bv]
      · simp [bv]
      · exact hmag m
      · simp [bv]
      · simp [bv]
      · simp [bv]) ms) 3 (.int .u64 0)
    have k3 := k2.set 3 (.int .u64 0)
    have s4 := s3.far k3 (not_bv (by
      intro u hu m
      simp only [zeroVal, List.set_cons_zero, List.set_cons_succ, List.mem_cons, List.not_mem_nil, or_false] at hu
      rcases hu with rfl | rfl | rfl | rfl | rfl | rfl
      · simp [bv]
      · simp [bv]
      · exact hmag m
      · simp [bv]
      · simp [bv]
      · simp [bv]) ms) 4 (.string ByteArray.empty)
    have k4 := k3.set 4 (.string ByteArray.empty)
    have s5 := s4.far k4 (not_bv (by
      intro u hu m
      simp only [zeroVal, List.set_cons_zero, List.set_cons_succ, List.mem_cons, List.not_mem_nil, or_false] at hu
      rcases hu with rfl | rfl | rfl | rfl | rfl | rfl
      · simp [bv]
      · simp [bv]
      · exact hmag m
      · simp [bv]
      · simp [bv]
      · simp [bv]) ms) 5 (.slice none 0 0)
    simpa [World.setCell] using s5
  · exact (((((hb.setCell (p := ⟨b, 0, none⟩) hlt _).setCell (p := ⟨b, 1, none⟩) hlt _).setCell (p := ⟨b, 2, none⟩) hlt _).setCell (p := ⟨b, 3, none⟩) hlt _).setCell (p := ⟨b, 4, none⟩) hlt _).setCell (p := ⟨b, 5, none⟩) hlt _

theorem sgn_neg (i : Int) : decide (sgn i < 0) = decide (i < 0) := by
  unfold sgn
  by_cases h : i < 0
  · simp [h]
  · by_cases h2 : i = 0 <;> simp [h, h2]

set_option maxHeartbeats 800000 in
theorem number_any (v : Value) (i : Int) (w : World) (hv : In w w.heap.size v i) (hl : i.natAbs < lim) : Calls Tryz.prog 67 #[v] w (VaPost i w) := by
  have core : ∀ W : World, Below w.heap.size w W → Calls Tryz.prog 103 #[v] W (BgPost i W) := fun W hb => BigInt_any v i W ((hv.below hb).more hb.size) hl
  have CORE := Lib.hid core
  have hsg := Lib.hid (sgn_neg i)
  obtain ⟨s, p, rfl⟩ := hv.form
  clear hv core
  go_enter Tryz.func67, Tryz.ntmps67
  go_wp2_with fail
  have hb0 : Below w.heap.size w ((w.alloc (.cells #[.int .i64 s, .pointer p] 120)).alloc (.cells zeroVal.toArray 26)) := ((Below.refl _ _).alloc (Nat.le_refl _) _).alloc (by simp) _
  have HB0 := Lib.hid hb0
  clear hb0
  refine (CORE.out _ HB0.out).mono ?_
  rintro e w1 ⟨q, rfl, hq, hb1⟩
  have hk1 : Blk w1 (w.heap.size + 1) 26 zeroVal := by
    have := (Blk.new (w.alloc (.cells #[.int .i64 s, .pointer p] 120)) 26 zeroVal).below hb1 (by simp)
    simpa using this
  have HB1 := Lib.hid (HB0.out.trans (hb1.mono HB0.out.size))
  have HQ := Lib.hid hq
  have HK1 := Lib.hid hk1
  clear hb1 hq hk1
  go_wp2_with fail
  refine (Sign_any q i w1 HQ.out hl).mono ?_
  rintro e w' ⟨rfl, rfl⟩
  go_wp2_with fail
  refine (Bytes_any q i w1 HQ.out hl).mono ?_
  rintro e w2 ⟨mag, rfl, hy, hb2⟩
  have hk2 := HK1.out.below hb2 HK1.out.lt
  have c0 : w2.cell? ⟨w.heap.size + 1, 0, none⟩ = some (.int .i64 0) := hk2.cell 0 (by simp [zeroVal])
  have c1 : w2.cell? ⟨w.heap.size + 1, 1, none⟩ = some (.bool false) := hk2.cell 1 (by simp [zeroVal])
  have c2 : w2.cell? ⟨w.heap.size + 1, 2, none⟩ = some (.slice none 0 0) := hk2.cell 2 (by simp [zeroVal])
  have c3 : w2.cell? ⟨w.heap.size + 1, 3, none⟩ = some (.int .u64 0) := hk2.cell 3 (by simp [zeroVal])
  have c4 : w2.cell? ⟨w.heap.size + 1, 4, none⟩ = some (.string ByteArray.empty) := hk2.cell 4 (by simp [zeroVal])
  have c5 : w2.cell? ⟨w.heap.size + 1, 5, none⟩ = some (.slice none 0 0) := hk2.cell 5 (by simp [zeroVal])
  have f0 := hk2.free 0
  have f1 := hk2.free 1
  have f2 := hk2.free 2
  have f3 := hk2.free 3
  have f4 := hk2.free 4
  have f5 := hk2.free 5
  obtain ⟨ms, hms, hsl⟩ := id hy
  obtain ⟨a, c, rfl, _⟩ := id hsl
  simp only [List.length_map] at hy
  have FIN := Lib.hid (Va.store (w := w) hy hsg.out hk2 (HB1.out.trans (hb2.mono HB1.out.size)) (by omega))
  clear hk2 hy hsl hb2 hms
  go_wp2_with fail
  refine bodyPost_ret (v := .agg #[.int .i64 2, .bool (decide (sgn i < 0)), .slice a ms.length c, .int .u64 0, .string ByteArray.empty, .slice none 0 0]) (by simp [results, Tryz.results67, go_sem, c0, c1, c2, c3, c4, c5]; rfl) rfl ?_
  exact FIN.out
end Go.Proofs.YtoggalnjjhcmkaaGreat
