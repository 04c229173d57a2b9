/- laws.whole: the integer of a sign and of some bytes, as the reference and as the program has it. -/
import Derived.Test.YtbfgjaammmpcdaaGreatDoorTold
import Derived.Test.YtbfgjaammmpcdaaGreatDoorNatSet
import Derived.Deep.RegionWith
namespace Go.Proofs.YtbfgjaammmpcdaaGreatDoor
open Go.RowKit Dig
set_option linter.unusedVariables false
set_option linter.unusedSimpArgs false
set_option maxRecDepth 100000

/-- a pair: an integer as the reference has it, and as the program has it -/
def PairPost (most : Nat) (w : World) (e : Ending) (w' : World) : Prop :=
  ∃ (i : Int) (n1 n2 : Bool) (a1 a2 : Option Addr) (k1 c1 k2 c2 : Nat), i.natAbs < 256 ^ most ∧
    e = .returned (.tuple #[.agg #[.bool n1, .slice a1 k1 c1], .agg #[.int .i64 2, .bool n2, .slice a2 k2 c2, .int .u64 0, .string ByteArray.empty, .slice none 0 0]]) ∧
    Sp w' w'.heap.size (.agg #[.bool n1, .slice a1 k1 c1]) i ∧ Va w' w'.heap.size (.agg #[.int .i64 2, .bool n2, .slice a2 k2 c2, .int .u64 0, .string ByteArray.empty, .slice none 0 0]) i ∧ Below w.heap.size w w'

theorem By.far {w : World} {B b : Nat} {v : Value} {m : Nat} {L : List Value} {e : TypeId} (h : By w B v m) (hk : Blk w b e L) (hd : ∀ u ∈ L, ∀ x, u ≠ bv x) (i : Nat) (y : Value) : By (w.setCell ⟨b, i, none⟩ y) B v m := by
  obtain ⟨ms, h1, h2⟩ := h
  exact ⟨ms, h1, h2.far hk (not_bv hd ms) i y⟩
theorem By.farVal {w : World} {B b : Nat} {v : Value} {m : Nat} {neg : Bool} {a : Option Addr} {k c : Nat} (h : By w B v m) (hk : Blk w b 28 zeroVal) :
    By ((((((w.setCell ⟨b, 0, none⟩ (.int .i64 2)).setCell ⟨b, 1, none⟩ (.bool neg)).setCell ⟨b, 2, none⟩ (.slice a k c)).setCell ⟨b, 3, none⟩ (.int .u64 0)).setCell ⟨b, 4, none⟩ (.string ByteArray.empty)).setCell ⟨b, 5, none⟩ (.slice none 0 0)) B v m := by
  have s0 := h.far hk (by simp [zeroVal, bv]) 0 (.int .i64 2)
  have k0 := hk.set 0 (.int .i64 2)
  have s1 := s0.far k0 (by simp [zeroVal, bv]) 1 (.bool neg)
  have k1 := k0.set 1 (.bool neg)
  have s2 := s1.far k1 (by simp [zeroVal, bv]) 2 (.slice a k c)
  have k2 := k1.set 2 (.slice a k c)
  have s3 := s2.far k2 (by simp [zeroVal, bv]) 3 (.int .u64 0)
  have k3 := k2.set 3 (.int .u64 0)
  have s4 := s3.far k3 (by simp [zeroVal, bv]) 4 (.string ByteArray.empty)
  have k4 := k3.set 4 (.string ByteArray.empty)
  exact s4.far k4 (by simp [zeroVal, bv]) 5 (.slice none 0 0)

theorem whole_fin {w w2 : World} {S : Nat} {i : Int} {most : Nat} {n1 n2 : Bool} {a1 a2 : Option Addr} {k1 c1 k2 c2 : Nat} (hi : i.natAbs < 256 ^ most)
    (hx : Sp w2 w2.heap.size (.agg #[.bool n1, .slice a1 k1 c1]) i) (hv : By w2 w2.heap.size (.slice a2 k2 c2) i.natAbs) (hn : n2 = decide (i < 0))
    (b6 : Blk w2 S 24 [.bool false, .slice none 0 0]) (b7 : Blk w2 (S + 1) 28 zeroVal) (hb : Below w.heap.size w w2) (hS : w.heap.size = S) :
    PairPost most w (.returned (.tuple #[.agg #[.bool n1, .slice a1 k1 c1], .agg #[.int .i64 2, .bool n2, .slice a2 k2 c2, .int .u64 0, .string ByteArray.empty, .slice none 0 0]]))
      (((((((((w2.setCell ⟨S, 0, none⟩ (.bool n1)).setCell ⟨S, 1, none⟩ (.slice a1 k1 c1))).setCell ⟨S + 1, 0, none⟩ (.int .i64 2)).setCell ⟨S + 1, 1, none⟩ (.bool n2)).setCell ⟨S + 1, 2, none⟩ (.slice a2 k2 c2)).setCell ⟨S + 1, 3, none⟩ (.int .u64 0)).setCell ⟨S + 1, 4, none⟩ (.string ByteArray.empty)).setCell ⟨S + 1, 5, none⟩ (.slice none 0 0)) := by
  have h1 := hx.store (w := w) b6 (by simp [bv]) hb (by omega)
  have v1 := hv.far b6 (by simp [bv]) 0 (.bool n1)
  have v2 := v1.far (b6.set 0 (.bool n1)) (by simp [bv]) 1 (.slice a1 k1 c1)
  have b7' : Blk ((w2.setCell ⟨S, 0, none⟩ (.bool n1)).setCell ⟨S, 1, none⟩ (.slice a1 k1 c1)) (S + 1) 28 zeroVal := (b7.far (p := ⟨S, 0, none⟩) (by simp) _).far (p := ⟨S, 1, none⟩) (by simp) _
  obtain ⟨v, he, hva, hbl⟩ := Va.store (w := w) (w2 := (w2.setCell ⟨S, 0, none⟩ (.bool n1)).setCell ⟨S, 1, none⟩ (.slice a1 k1 c1)) (i := i) (neg := n2) (by simpa [World.setCell] using v2) hn b7' h1.2 (by omega)
  injection he with he
  subst he
  obtain ⟨mag, hm, hy⟩ := h1.1
  refine ⟨i, n1, n2, a1, a2, k1, c1, k2, c2, hi, rfl, ⟨mag, hm, ?_⟩, hva, hbl⟩
  have := hy.farVal (neg := n2) (a := a2) (k := k2) (c := c2) b7'
  simpa [World.setCell] using this

set_option maxHeartbeats 6400000 in
theorem lawsWhole_any (neg : Bool) (ms : List Nat) (v : Value) (most : Nat) (w : World) (hms : ∀ x ∈ ms, x < 256) (hs : Sl w w.heap.size v (ms.map bv)) (hlen : ms.length ≤ 2147483647) (hmost : most ≤ 4096) :
    Calls Tryz.prog 5 #[.bool neg, v, .int .i64 most] w (PairPost most w) := by
  obtain ⟨K, hK⟩ : ∃ K, K = min ms.length most := ⟨_, rfl⟩
  obtain ⟨a, c, rfl, hc, hr⟩ := id hs
  simp only [List.length_map] at hs hc ⊢
  have hKl : K ≤ ms.length := by omega
  have hKm : K ≤ most := by omega
  have hmin : (if (ms.length : Int) ≤ (most : Int) then (ms.length : Int) else (most : Int)) = (K : Int) := by split <;> omega
  have SRC := hs.head K (by simpa using hKl)
  rw [← List.map_take] at SRC
  obtain ⟨W, hW⟩ : ∃ W, W = (w.alloc (.cells #[.bool false, .slice none 0 0] 24)).alloc (.cells zeroVal.toArray 28) := ⟨_, rfl⟩
  have hWb : Below w.heap.size w W := by rw [hW]; exact ((Below.refl _ _).alloc (Nat.le_refl _) _).alloc (by simp) _
  have hW6 : Blk W w.heap.size 24 [.bool false, .slice none 0 0] := by rw [hW]; exact (Blk.new w _ [.bool false, .slice none 0 0]).alloc _
  have hW7 : Blk W (w.heap.size + 1) 28 zeroVal := by
    rw [hW]
    have := Blk.new (w.alloc (.cells #[.bool false, .slice none 0 0] 24)) 28 zeroVal
    simpa using this
  have hlt : bval (ms.take K) < 256 ^ most := by
    have h1 := bval_lt (ms.take K) (fun x hx => hms x (List.mem_of_mem_take hx))
    rw [List.length_take, Nat.min_eq_left hKl] at h1
    exact lt_pow_of h1 hKm
  have C := of_any neg (ms.take K) _ W (fun x hx => hms x (List.mem_of_mem_take hx)) (by simp; omega) ((SRC.below hWb).more hWb.size)
  have CORE : Hid (Calls Tryz.prog 6 #[.bool neg, .slice a K c] W fun e w1 => ∃ (i : Int) (n1 : Bool) (a1 : Option Addr) (k1 c1 : Nat), e = .returned (.agg #[.bool n1, .slice a1 k1 c1]) ∧ i.natAbs < 256 ^ most ∧ Sp w1 w1.heap.size (.agg #[.bool n1, .slice a1 k1 c1]) i ∧
      Blk w1 w.heap.size 24 [.bool false, .slice none 0 0] ∧ Blk w1 (w.heap.size + 1) 28 zeroVal ∧ Below w.heap.size w w1) := Lib.hid (C.mono (by
    intro e w1 h
    obtain ⟨v, he, hsp, hb⟩ := h.sp
    obtain ⟨n1, a1, k1, c1, rfl⟩ := hsp.form
    refine ⟨_, n1, a1, k1, c1, he, ?_, hsp, hW6.below hb hW6.lt, hW7.below hb hW7.lt, hWb.trans (hb.mono hWb.size)⟩
    cases neg <;> simp <;> exact hlt))
  subst hW
  have hlm : 256 ^ most ≤ lim := by
    unfold lim
    exact Nat.pow_le_pow_right (by omega) (by rw [limW_eq]; omega)
  have HLM := Lib.hid hlm
  unfold zeroVal at CORE
  clear C SRC hWb hW6 hW7 hlt hms hs hlm hr hmin
  have cases3 : (ms.length < most ∧ ms.length = K) ∨ (most = ms.length ∧ ms.length = K) ∨ (most < ms.length ∧ most = K) := by omega
  clear hK hKl hKm
  rcases cases3 with ⟨hcase, rfl⟩ | ⟨hcase, rfl⟩ | ⟨hcase, rfl⟩
  all_goals
    go_enter Tryz.func5, Tryz.ntmps5
    go_wp2_with fail
    refine CORE.out.mono ?_
    rintro e w1 ⟨i, n1, a1, k1, c1, rfl, hi, hsp, b6, b7, hb1⟩
    have HI := Lib.hid hi
    have TOLD : Hid (Calls Tryz.prog 12 #[.agg #[.bool n1, .slice a1 k1 c1]] (w1.alloc (.cells #[.bool n1, .slice a1 k1 c1] 24)).drew fun e w2 => ∃ (n2 : Bool) (a2 : Option Addr) (k2 c2 : Nat), e = .returned (.agg #[.int .i64 2, .bool n2, .slice a2 k2 c2, .int .u64 0, .string ByteArray.empty, .slice none 0 0]) ∧
        Blk w2 w1.heap.size 24 [.bool n1, .slice a1 k1 c1] ∧ Blk w2 w.heap.size 24 [.bool false, .slice none 0 0] ∧ Blk w2 (w.heap.size + 1) 28 zeroVal ∧
        PairPost most w (.returned (.tuple #[.agg #[.bool n1, .slice a1 k1 c1], .agg #[.int .i64 2, .bool n2, .slice a2 k2 c2, .int .u64 0, .string ByteArray.empty, .slice none 0 0]]))
          (((((((((w2.setCell ⟨w.heap.size, 0, none⟩ (.bool n1)).setCell ⟨w.heap.size, 1, none⟩ (.slice a1 k1 c1))).setCell ⟨w.heap.size + 1, 0, none⟩ (.int .i64 2)).setCell ⟨w.heap.size + 1, 1, none⟩ (.bool n2)).setCell ⟨w.heap.size + 1, 2, none⟩ (.slice a2 k2 c2)).setCell ⟨w.heap.size + 1, 3, none⟩ (.int .u64 0)).setCell ⟨w.heap.size + 1, 4, none⟩ (.string ByteArray.empty)).setCell ⟨w.heap.size + 1, 5, none⟩ (.slice none 0 0))) := by
      have hbl : Below w1.heap.size w1 (w1.alloc (.cells #[.bool n1, .slice a1 k1 c1] 24)).drew := ((Below.refl _ _).alloc (Nat.le_refl _) _).drew
      have hnew : Blk (w1.alloc (.cells #[.bool n1, .slice a1 k1 c1] 24)).drew w1.heap.size 24 [.bool n1, .slice a1 k1 c1] := Blk.new w1 _ [.bool n1, .slice a1 k1 c1]
      refine (told_any _ i _ ((hsp.below hbl).more hbl.size) (Nat.lt_of_lt_of_le hi HLM.out)).mono ?_
      rintro e w2 ⟨v2, rfl, ⟨mag2, rfl, ms2, hm2, hs2⟩, hb2⟩
      obtain ⟨a2, c2, rfl, _⟩ := id hs2
      have hb12 : Below w1.heap.size w1 w2 := hbl.trans (hb2.mono hbl.size)
      have q6 := b6.below hb12 b6.lt
      have q7 := b7.below hb12 b7.lt
      exact ⟨_, a2, _, c2, rfl, hnew.below hb2 hnew.lt, q6, q7, whole_fin hi ((hsp.below hb12).more hb12.size) ⟨ms2, hm2, hs2⟩ rfl q6 q7 (hb1.trans (hb12.mono hb1.size)) rfl⟩
    clear hi hsp b6 b7 hb1
    unfold zeroVal at TOLD
    go_wp2_with fail
    go_region_with (go_at_call 12; refine TOLD.out.mono ?_; rintro e w2 ⟨n2, a2, k2, c2, rfl, q1, q6, q7, hfin⟩; have d0 : w2.cell? ⟨w.heap.size, 0, none⟩ = some (.bool false) := q6.cell 0 (by simp); have d1 : w2.cell? ⟨w.heap.size, 1, none⟩ = some (.slice none 0 0) := q6.cell 1 (by simp); have u0 : w2.cell? ⟨w.heap.size + 1, 0, none⟩ = some (.int .i64 0) := q7.cell 0 (by simp); have u1 : w2.cell? ⟨w.heap.size + 1, 1, none⟩ = some (.bool false) := q7.cell 1 (by simp); have u2 : w2.cell? ⟨w.heap.size + 1, 2, none⟩ = some (.slice none 0 0) := q7.cell 2 (by simp); have u3 : w2.cell? ⟨w.heap.size + 1, 3, none⟩ = some (.int .u64 0) := q7.cell 3 (by simp); have u4 : w2.cell? ⟨w.heap.size + 1, 4, none⟩ = some (.string ByteArray.empty) := q7.cell 4 (by simp); have u5 : w2.cell? ⟨w.heap.size + 1, 5, none⟩ = some (.slice none 0 0) := q7.cell 5 (by simp); have e0 : w2.cell? ⟨w1.heap.size, 0, none⟩ = some (.bool n1) := q1.cell 0 (by simp); have e1 : w2.cell? ⟨w1.heap.size, 1, none⟩ = some (.slice a1 k1 c1) := q1.cell 1 (by simp); have f0 := q7.free 0; have f1 := q7.free 1; have f2 := q7.free 2; have f3 := q7.free 3; have f4 := q7.free 4; have f5 := q7.free 5; have g0 := q6.free 0; have g1 := q6.free 1; have l1 := q1.lt; have l6 := q6.lt; have l7 := q7.lt; have F := Lib.hid hfin; clear q1 q6 q7 hfin)
    all_goals
      go_wp2_with fail
      refine bodyPost_ret (v := .tuple #[.agg #[.bool n1, .slice a1 k1 c1], .agg #[.int .i64 2, .bool n2, .slice a2 k2 c2, .int .u64 0, .string ByteArray.empty, .slice none 0 0]]) (by simp [results, Tryz.results5, go_sem, u0, u1, u2, u3, u4, u5, d0, d1]) rfl ?_
      exact F.out
end Go.Proofs.YtbfgjaammmpcdaaGreatDoor
