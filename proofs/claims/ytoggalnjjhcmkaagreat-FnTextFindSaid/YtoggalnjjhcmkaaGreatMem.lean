/- How numbers lie in memory: cells from a place on, blocks that are known whole, slices that read as lists; what keeps them. No function of the program. -/
import Derived.Test.YtoggalnjjhcmkaaGreatDig
import Derived.WalkKit
import Derived.ProofKit
import Derived.Handy
import Derived.Below
import Derived.WalkSmall
import Derived.Lib.Hide
import Derived.Deep.QuietTactic
import Derived.BigQuiet
import Derived.Deep.Draws
import Derived.Laws.Rows
namespace Go.Proofs.YtoggalnjjhcmkaaGreat
open Go.RowKit
set_option linter.unusedVariables false
set_option linter.unusedSimpArgs false

/-- the cells from a place on read as vs -/
def Rd (w : World) (b o : Nat) (vs : List Value) : Prop := ∀ i, i < vs.length → w.cell? ⟨b, o + i, none⟩ = some (vs.getD i undef)
/-- block b is just these cells, of element type e, none frozen -/
def Blk (w : World) (b : Nat) (e : TypeId) (L : List Value) : Prop := w.heap[b]? = some (.cells L.toArray e (0, 0))
/-- a slice value that reads as vs; its memory below block B -/
def Sl (w : World) (B : Nat) (v : Value) (vs : List Value) : Prop :=
  ∃ a c, v = .slice a vs.length c ∧ vs.length ≤ c ∧ (vs ≠ [] → ∃ b o, a = some ⟨b, o, none⟩ ∧ b < B ∧ Rd w b o vs)
/-- w' is as w but for new blocks and for what is written to block r -/
def Up (r : Option Nat) (w w' : World) : Prop := w.grownBy w' r

theorem lt_of_cell {w : World} {b o : Nat} {v : Value} (h : w.cell? ⟨b, o, none⟩ = some v) : b < w.heap.size := by
  rcases Nat.lt_or_ge b w.heap.size with hlt | hge
  · exact hlt
  · simp [World.cell?, Array.getElem?_eq_none hge] at h

section
variable {w w' : World} {b o B : Nat} {e : TypeId} {L vs : List Value} {v : Value}
theorem Blk.lt (h : Blk w b e L) : b < w.heap.size := by
  rcases Nat.lt_or_ge b w.heap.size with hlt | hge
  · exact hlt
  · unfold Blk at h; rw [Array.getElem?_eq_none hge] at h; cases h
theorem Blk.cell (h : Blk w b e L) (i : Nat) (hi : i < L.length) : w.cell? ⟨b, i, none⟩ = some (L.getD i undef) := by
  unfold Blk at h
  simp [World.cell?, h, List.getElem?_eq_getElem hi]
theorem Blk.free (h : Blk w b e L) (i : Nat) : w.frozen? ⟨b, i, none⟩ = false := by
  unfold Blk at h
  simp [World.frozen?, h]
theorem Blk.new (w : World) (e : TypeId) (L : List Value) : Blk (w.alloc (.cells L.toArray e)) w.heap.size e L := heap_alloc_new w _
theorem Blk.drewN (h : Blk w b e L) (n : Nat) : Blk (w.drewN n) b e L := h
theorem Blk.alloc (h : Blk w b e L) (x : Obj) : Blk (w.alloc x) b e L := (Below.heap_alloc w x b h.lt).trans h
theorem Blk.set (h : Blk w b e L) (i : Nat) (u : Value) : Blk (w.setCell ⟨b, i, none⟩ u) b e (L.set i u) := by
  unfold Blk at h ⊢
  simp [World.setCell, Array.getElem?_modify, h]
theorem Blk.far (h : Blk w b e L) {p : Addr} (hp : b ≠ p.block) (u : Value) : Blk (w.setCell p u) b e L := (Below.heap_setCell w p u b hp).trans h
theorem Blk.below (h : Blk w b e L) (hb : Below B w w') (hg : b < B) : Blk w' b e L := (hb.block b hg).trans h
theorem Blk.up {r : Option Nat} (h : Blk w b e L) (hb : Up r w w') (hg : some b ≠ r) : Blk w' b e L := (hb.block b h.lt hg).trans h
theorem Blk.rd (h : Blk w b e L) (hl : o + vs.length ≤ L.length) (hv : ∀ i, i < vs.length → L.getD (o + i) undef = vs.getD i undef) : Rd w b o vs := fun i hi => by
  rw [h.cell (o + i) (by omega), hv i hi]
theorem Blk.inj {e' : TypeId} {L' : List Value} (h : Blk w b e L) (h' : Blk w b e' L') : e = e' ∧ L = L' := by
  unfold Blk at h h'
  rw [h] at h'
  injection h' with h'
  injection h' with h1 h2
  exact ⟨h2, by simpa using congrArg Array.toList h1⟩

theorem Rd.at_ (h : Rd w b o vs) {i : Nat} (hi : i < vs.length) : w.cell? ⟨b, o + i, none⟩ = some (vs.getD i undef) := h i hi
theorem Rd.keep (h : Rd w b o vs) (hk : ∀ i, i < vs.length → w'.cell? ⟨b, o + i, none⟩ = w.cell? ⟨b, o + i, none⟩) : Rd w' b o vs := fun i hi => (hk i hi).trans (h i hi)
theorem Rd.below (h : Rd w b o vs) (hb : Below B w w') (hg : b < B) : Rd w' b o vs := h.keep fun i _ => hb.cell (p := ⟨b, o + i, none⟩) hg
theorem Rd.up {r : Option Nat} (h : Rd w b o vs) (hb : Up r w w') (hlt : b < w.heap.size) (hg : some b ≠ r) : Rd w' b o vs :=
  h.keep fun i _ => World.cell?_of_block (a := ⟨b, o + i, none⟩) (hb.block b hlt hg)
theorem Rd.drop (h : Rd w b o vs) (k : Nat) : Rd w b (o + k) (vs.drop k) := fun i hi => by
  have := h (k + i) (by simp at hi; omega)
  rw [Nat.add_assoc, this]; simp [List.getD_eq_getElem?_getD]
theorem Rd.take (h : Rd w b o vs) (k : Nat) : Rd w b o (vs.take k) := fun i hi => by
  simp only [List.length_take] at hi
  rw [h i (by omega)]
  simp [List.getD_eq_getElem?_getD, show i < k by omega]

theorem Sl.nil (w : World) (B : Nat) : Sl w B (.slice none 0 0) [] := ⟨none, 0, rfl, Nat.le_refl _, fun h => absurd rfl h⟩
theorem Sl.empty (w : World) (B : Nat) (a : Option Addr) (c : Nat) : Sl w B (.slice a 0 c) [] := ⟨a, c, rfl, Nat.zero_le _, fun h => absurd rfl h⟩
theorem Sl.mk {c : Nat} (h : Rd w b o vs) (hc : vs.length ≤ c) (hb : b < B) : Sl w B (.slice (some ⟨b, o, none⟩) vs.length c) vs := ⟨_, c, rfl, hc, fun _ => ⟨b, o, rfl, hb, h⟩⟩
theorem Sl.keep (h : Sl w B v vs) (hk : ∀ b o, b < B → w'.cell? ⟨b, o, none⟩ = w.cell? ⟨b, o, none⟩) : Sl w' B v vs := by
  obtain ⟨a, c, hv, hc, hr⟩ := h
  refine ⟨a, c, hv, hc, fun hne => ?_⟩
  obtain ⟨b, o, ha, hb, hrd⟩ := hr hne
  exact ⟨b, o, ha, hb, hrd.keep fun i _ => hk b _ hb⟩
theorem Sl.below (h : Sl w B v vs) (hb : Below B w w') : Sl w' B v vs := h.keep fun b o hlt => hb.cell (p := ⟨b, o, none⟩) hlt
theorem Sl.drewN (h : Sl w B v vs) (n : Nat) : Sl (w.drewN n) B v vs := h
theorem Sl.more {B' : Nat} (h : Sl w B v vs) (hB : B ≤ B') : Sl w B' v vs := by
  obtain ⟨a, c, hv, hc, hr⟩ := h
  refine ⟨a, c, hv, hc, fun hne => ?_⟩
  obtain ⟨b, o, ha, hb, hrd⟩ := hr hne
  exact ⟨b, o, ha, by omega, hrd⟩
/-- what is read below the heap's end -/
theorem Sl.here (h : Sl w B v vs) : Sl w w.heap.size v vs := by
  obtain ⟨a, c, hv, hc, hr⟩ := h
  refine ⟨a, c, hv, hc, fun hne => ?_⟩
  obtain ⟨b, o, ha, hb, hrd⟩ := hr hne
  have := hrd 0 (by cases vs with | nil => exact absurd rfl hne | cons => simp)
  exact ⟨b, o, ha, lt_of_cell this, hrd⟩

theorem Up.refl (r : Option Nat) (w : World) : Up r w w := World.grownBy.refl w r
theorem Up.drewN {r : Option Nat} (h : Up r w w') (n : Nat) : Up r w (w'.drewN n) := ⟨h.os, h.tape, h.output, h.size, h.block⟩
theorem Up.alloc {r : Option Nat} (h : Up r w w') (x : Obj) : Up r w (w'.alloc x) :=
  ⟨h.os, h.tape, h.output, by have := h.size; simp; omega, fun k hk hr => (Below.heap_alloc w' x k (by have := h.size; omega)).trans (h.block k hk hr)⟩
theorem Up.set {b : Nat} (h : Up (some b) w w') (i : Nat) (u : Value) : Up (some b) w (w'.setCell ⟨b, i, none⟩ u) :=
  ⟨h.os, h.tape, h.output, by have := h.size; simp [World.setCell]; omega, fun k hk hr => (Below.heap_setCell w' _ u k (by simpa using hr)).trans (h.block k hk hr)⟩
theorem Up.trans {r : Option Nat} {w'' : World} (h : Up r w w') (k : Up r w' w'') : Up r w w'' :=
  ⟨k.os.trans h.os, k.tape.trans h.tape, k.output.trans h.output, Nat.le_trans h.size k.size, fun i hi hr => (k.block i (Nat.lt_of_lt_of_le hi h.size) hr).trans (h.block i hi hr)⟩
theorem Up.below {r : Option Nat} (h : Up r w w') (hB : B ≤ w.heap.size) (hr : ∀ k, r = some k → B ≤ k) : Below B w w' := (Below.refl B w).grown h hB hr
theorem Up.of_below {r : Option Nat} (h : Below w.heap.size w w') : Up r w w' := ⟨h.os, h.tape, h.output, h.size, fun k hk _ => h.block k hk⟩
theorem Sl.up {b : Nat} (h : Sl w B v vs) (hb : Up (some b) w w') (hB : B ≤ w.heap.size) (hbB : B ≤ b) : Sl w' B v vs :=
  h.keep fun k o hk => World.cell?_of_block (a := ⟨k, o, none⟩) (hb.block k (by omega) (by simp; omega))
end

/-- words and bytes as values -/
def wv (x : Nat) : Value := .int .u64 (x : Int)
def bv (x : Nat) : Value := .int .u8 (x : Int)
theorem getD_map_wv (xs : List Nat) (i : Nat) (h : i < xs.length) : (xs.map wv).getD i undef = .int .u64 ((xs.getD i 0 : Nat) : Int) := by
  simp [List.getD_eq_getElem?_getD, List.getElem?_eq_getElem h, wv]
theorem getD_map_bv (xs : List Nat) (i : Nat) (h : i < xs.length) : (xs.map bv).getD i undef = .int .u8 ((xs.getD i 0 : Nat) : Int) := by
  simp [List.getD_eq_getElem?_getD, List.getElem?_eq_getElem h, bv]
/-- a store into a block that holds other things than vs turns nothing of vs -/
theorem Sl.far {w : World} {B b : Nat} {v : Value} {vs L : List Value} {e : TypeId} (h : Sl w B v vs) (hk : Blk w b e L) (hd : ∀ u ∈ L, u ∉ vs) (i : Nat) (y : Value) : Sl (w.setCell ⟨b, i, none⟩ y) B v vs := by
  obtain ⟨a, c, hv, hc, hr⟩ := h
  refine ⟨a, c, hv, hc, fun hne => ?_⟩
  obtain ⟨b', o, ha, hb, hrd⟩ := hr hne
  refine ⟨b', o, ha, hb, hrd.keep fun j _ => ?_⟩
  have hpos : 0 < vs.length := List.length_pos_iff.2 hne
  have hne2 : b' ≠ b := by
    rintro rfl
    have h0 := hrd 0 hpos
    rw [Nat.add_zero] at h0
    rcases Nat.lt_or_ge o L.length with hlt | hge
    · rw [hk.cell o hlt] at h0
      have e1 : L.getD o undef = vs.getD 0 undef := Option.some.inj h0
      rw [List.getD_eq_getElem?_getD, List.getD_eq_getElem?_getD, List.getElem?_eq_getElem hlt, List.getElem?_eq_getElem hpos] at e1
      exact hd _ (List.getElem_mem hlt) (by simp only [Option.getD_some] at e1; rw [e1]; exact List.getElem_mem hpos)
    · unfold Blk at hk
      simp [World.cell?, hk, List.getElem?_eq_none hge] at h0
  exact World.cell?_of_block (a := ⟨b', o + j, none⟩) (Below.heap_setCell w _ y b' hne2)
theorem not_bv {L : List Value} (h : ∀ u ∈ L, ∀ x, u ≠ bv x) (ms : List Nat) : ∀ u ∈ L, u ∉ ms.map bv := by
  intro u hu hm
  obtain ⟨x, _, hx⟩ := List.mem_map.1 hm
  exact h u hu x hx.symm
theorem not_wv {L : List Value} (h : ∀ u ∈ L, ∀ x, u ≠ wv x) (ms : List Nat) : ∀ u ∈ L, u ∉ ms.map wv := by
  intro u hu hm
  obtain ⟨x, _, hx⟩ := List.mem_map.1 hm
  exact h u hu x hx.symm
end Go.Proofs.YtoggalnjjhcmkaaGreat
