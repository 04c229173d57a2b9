/- laws.whole: the integer of a sign and of some bytes, as the reference and as the program has it. -/
import Derived.Test.YtoggalnjjhcmkaaGreatTold
import Derived.Test.YtoggalnjjhcmkaaGreatNatSet
import Derived.Deep.RegionWith
namespace Go.Proofs.YtoggalnjjhcmkaaGreat
open Go.RowKit Dig
set_option linter.unusedVariables false
set_option linter.unusedSimpArgs false
set_option maxRecDepth 100000

/-- a pair: an integer as the reference has it, and as the program has it -/
def PairPost (most : Nat) (w : World) (e : Ending) (w' : World) : Prop :=
  ∃ (i : Int) (n1 n2 : Bool) (a1 a2 : Option Addr) (k1 c1 k2 c2 : Nat), i.natAbs < 256 ^ most ∧
    e = .returned (.tuple #[.agg #[.bool n1, .slice a1 k1 c1], .agg #[.int .i64 2, .bool n2, .slice a2 k2 c2, .int .u64 0, .string ByteArray.empty, .slice none 0 0]]) ∧
    Sp w' w'.heap.size (.agg #[.bool n1, .slice a1 k1 c1]) i ∧ Va w' w'.heap.size (.agg #[.int .i64 2, .bool n2, .slice a2 k2 c2, .int .u64 0, .string ByteArray.empty, .slice none 0 0]) i ∧ Below w.heap.size w w'

theorem By.far {w : World} {B b : Nat} {v : Value} {m : Nat} {L : List Value} {e : TypeId} (h : By w B v m) (hk : Blk w b e L) (hd : ∀ u ∈ L, ∀ x, u ≠ bv x) (i : Nat) (y : Value) : By (w.setCell ⟨b, i, none⟩ y) B v m := by
  obtain ⟨ms, h1, h2⟩ := h
  exact ⟨ms, h1, h2.far hk (not_bv hd ms) i y⟩
theorem By.farVal {w : World} {B b : Nat} {v : Value} {m : Nat} {neg : Bool} {a : Option Addr} {k c : Nat} (h : By w B v m) (hk : Blk w b 26 zeroVal) :
    By ((((((w.setCell ⟨b, 0, none⟩ (.int .i64 2)).setCell ⟨b, 1, none⟩ (.bool neg)).setCell ⟨b, 2, none⟩ (.slice a k c)).setCell ⟨b, 3, none⟩ (.int .u64 0)).setCell ⟨b, 4, none⟩ (.string ByteArray.empty)).setCell ⟨b, 5, none⟩ (.slice none 0 0)) B v m := by
  have s0 := h.far hk (by simp [zeroVal, bv]) 0 (.int .i64 2)
  have k0 := hk.set 0 (.int .i64 2)
  have s1 := s0.far k0 (by simp [zeroVal, bv]) 1 (.bool neg)
  have k1 := k0.set 1 (.bool neg)
  have s2 := s1.far k1 (by simp [zeroVal, bv]) 2 (.slice a k c)
  have k2 := k1.set 2 (.slice a k c)
  have s3 := s2.far k2 (by simp [zeroVal, bv]) 3 (.int .u64 0)
  have k3 := k2.set 3 (.int .u64 0)
  have s4 := s3.far k3 (by simp [zeroVal, bv]) 4 (.string ByteArray.empty)
  have k4 := k3.set 4 (.string ByteArray.empty)
  exact s4.far k4 (by simp [zeroVal, bv]) 5 (.slice none 0 0)

theorem whole_fin {w w2 : World} {S : Nat} {i : Int} {most : Nat} {n1 n2 : Bool} {a1 a2 : Option Addr} {k1 c1 k2 c2 : Nat} (hi : i.natAbs < 256 ^ most)
    (hx : Sp w2 w2.heap.size (.agg #[.bool n1, .slice a1 k1 c1]) i) (hv : By w2 w2.heap.size (.slice a2 k2 c2) i.natAbs) (hn : n2 = decide (i < 0))
    (b6 : Blk w2 S 36 [.bool false, .slice none 0 0]) (b7 : Blk w2 (S + 1) 26 zeroVal) (hb : Below w.heap.size w w2) (hS : w.heap.size = S) :
    PairPost most w (.returned (.tuple #[.agg #[.bool n1, .slice a1 k1 c1], .agg #[.int .i64 2, .bool n2, .slice a2 k2 c2, .int .u64 0, .string ByteArray.empty, .slice none 0 0]]))
      (((((((((w2.setCell ⟨S, 0, none⟩ (.bool n1)).setCell ⟨S, 1, none⟩ (.slice a1 k1 c1))).setCell ⟨S + 1, 0, none⟩ (.int .i64 2)).setCell ⟨S + 1, 1, none⟩ (.bool n2)).setCell ⟨S + 1, 2, none⟩ (.slice a2 k2 c2)).setCell ⟨S + 1, 3, none⟩ (.int .u64 0)).setCell ⟨S + 1, 4, none⟩ (.string ByteArray.empty)).setCell ⟨S + 1, 5, none⟩ (.slice none 0 0)) := by
  have h1 := hx.store (w := w) b6 (by simp [bv]) hb (by omega)
  have v1 := hv.far b6 (by simp [bv]) 0 (.bool n1)
  have v2 := v1.far (b6.set 0 (.bool n1)) (by simp [bv]) 1 (.slice a1 k1 c1)
  have b7' : Blk ((w2.setCell ⟨S, 0, none⟩ (.bool n1)).setCell ⟨S, 1, none⟩ (.slice a1 k1 c1)) (S + 1) 26 zeroVal := (b7.far (p := ⟨S, 0, none⟩) (by simp) _).far (p := ⟨S, 1, none⟩) (by simp) _
  obtain ⟨v, he, hva, hbl⟩ := Va.store (w := w) (w2 := (w2.setCell ⟨S, 0, none⟩ (.bool n1)).setCell ⟨S, 1, none⟩ (.slice a1 k1 c1)) (i := i) (neg := n2) (by simpa [World.setCell] using v2) hn b7' h1.2 (by omega)
  injection he with he
  subst he
  obtain ⟨mag, hm, hy⟩ := h1.1
  refine ⟨i, n1, n2, a1, a2, k1, c1, k2, c2, hi, rfl, ⟨mag, hm, ?_⟩, hva, hbl⟩
  have := hy.farVal (neg := n2) (a := a2) (k := k2) (c := c2) b7'
  simpa [World.setCell] using this

end Go.Proofs.YtoggalnjjhcmkaaGreat
