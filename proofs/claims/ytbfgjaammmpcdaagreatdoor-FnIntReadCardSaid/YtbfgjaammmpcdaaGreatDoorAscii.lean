/- spec.Ascii: the first 60 bytes of a text, each below 128 (printed by genascii.py). -/
import Derived.Test.YtbfgjaammmpcdaaGreatDoorMBase
import Derived.Test.YtbfgjaammmpcdaaGreatDoorProg
import Derived.Laws.IdiomStrings
import Derived.Laws.BytesArg
namespace Go.Proofs.YtbfgjaammmpcdaaGreatDoor
open Go.RowKit
set_option linter.unusedVariables false
set_option linter.unusedSimpArgs false
set_option maxRecDepth 100000

/-- a block that bears the mark behind its last cell -/
def BlkM (w : World) (b : Nat) (e : TypeId) (L : List Value) : Prop := w.heap[b]? = some (.cells L.toArray e (L.length, L.length + 1))
theorem BlkM.cell {w : World} {b : Nat} {e : TypeId} {L : List Value} (h : BlkM w b e L) (i : Nat) (hi : i < L.length) : w.cell? ⟨b, i, none⟩ = some (L.getD i undef) := by
  unfold BlkM at h
  simp [World.cell?, h, List.getElem?_eq_getElem hi]
theorem BlkM.free {w : World} {b : Nat} {e : TypeId} {L : List Value} (h : BlkM w b e L) (i : Nat) (hi : i < L.length) : w.frozen? ⟨b, i, none⟩ = false := by
  unfold BlkM at h
  simp [World.frozen?, h]
  omega
theorem BlkM.set {w : World} {b : Nat} {e : TypeId} {L : List Value} (h : BlkM w b e L) (i : Nat) (u : Value) : BlkM (w.setCell ⟨b, i, none⟩ u) b e (L.set i u) := by
  unfold BlkM at h ⊢
  simp [World.setCell, Array.getElem?_modify, h]
theorem below_drew1 {b : Nat} {w w' : World} (h : Below b w w') : Below b w w'.drew := ⟨h.os, h.tape, h.output, h.size, h.block⟩
theorem add_zero0 (b i : Nat) : (⟨b, 0, none⟩ : Addr).add i = ⟨b, i, none⟩ := by
  unfold Addr.add
  by_cases h : i = 0
  · subst h; simp
  · simp [h]

def low7 (b : UInt8) : UInt8 := b &&& 127
theorem low7_lt (b : UInt8) : (low7 b).toNat < 128 := by
  unfold low7
  have : (b &&& 127).toNat = b.toNat &&& 127 := by simp
  rw [this]
  exact Nat.lt_of_le_of_lt Nat.and_le_right (by omega)
theorem low7_bits (b : UInt8) : bits .and .u8 (b.toNat : Int) 127 = ((low7 b).toNat : Int) := by
  have h : ∀ n : Nat, n < 256 → bits .and .u8 (n : Int) 127 = ((n &&& 127 : Nat) : Int) := by decide +kernel
  rw [h _ b.toNat_lt]
  unfold low7
  simp
/-- the text that Ascii makes -/
def asc (s : ByteArray) : ByteArray := ⟨((s.data.toList.take 60).map low7).toArray⟩
theorem asc_size (s : ByteArray) : (asc s).size ≤ 60 := by
  unfold asc
  show (((s.data.toList.take 60).map low7).toArray).size ≤ 60
  simp; omega
/-- the row when k bytes are done -/
def ascRow (l : List UInt8) (k : Nat) (z : List Value) : List Value := (l.take k).map (fun b => Value.int .u8 ((low7 b).toNat : Int)) ++ ((l.drop k).map (fun b => Value.int .u8 (b.toNat : Int)) ++ z)
theorem ascRow_length (l : List UInt8) (k : Nat) (z : List Value) (hk : k ≤ l.length) : (ascRow l k z).length = l.length + z.length := by simp [ascRow]; omega
theorem ascRow_getD (l : List UInt8) (k : Nat) (z : List Value) (hk : k < l.length) : (ascRow l k z).getD k undef = .int .u8 (l[k].toNat : Int) := by
  unfold ascRow
  rw [List.drop_eq_getElem_cons hk, List.getD_eq_getElem?_getD, List.getElem?_append_right (by simp; omega), List.map_cons, List.cons_append]
  simp [Nat.min_eq_left (Nat.le_of_lt hk)]
theorem ascRow_getD' (l : List UInt8) (k : Nat) (z : List Value) (hk : l.length ≤ k) {j : Nat} (hj : j < l.length) : (ascRow l k z).getD j undef = .int .u8 ((low7 l[j]).toNat : Int) := by
  unfold ascRow
  rw [List.take_of_length_le hk, List.getD_eq_getElem?_getD, List.getElem?_append_left (by simpa using hj)]
  simp [hj]
theorem ascRow_set (l : List UInt8) (k : Nat) (z : List Value) (hk : k < l.length) : (ascRow l k z).set k (.int .u8 ((low7 l[k]).toNat : Int)) = ascRow l (k + 1) z := by
  unfold ascRow
  rw [List.drop_eq_getElem_cons hk, List.set_append_right _ _ (by simp; omega), List.map_cons, List.cons_append]
  have e : k - ((l.take k).map (fun b => Value.int .u8 ((low7 b).toNat : Int))).length = 0 := by simp; omega
  rw [e, List.set_cons_zero, List.take_succ_eq_append_getElem hk]
  simp only [List.map_append, List.map_cons, List.map_nil, List.append_assoc, List.cons_append, List.nil_append]
def AscRel (l : List UInt8) (n cap : Nat) (w : World) (i : Value) (wr : World) : Prop :=
  ∃ k : Nat, k ≤ n ∧ i = .int .i64 (k : Int) ∧ BlkM wr w.heap.size 5 (ascRow l k (List.replicate (cap - n) (.int .u8 0))) ∧ Below w.heap.size w wr
end Go.Proofs.YtbfgjaammmpcdaaGreatDoor
