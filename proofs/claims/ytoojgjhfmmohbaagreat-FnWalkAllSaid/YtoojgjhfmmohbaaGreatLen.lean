/- math/bits.Len64 (the walk's ways are those of the shelf's text, turned), Len; nat.bitLen, (*Int).BitLen: how many bits. -/
import Derived.Test.YtoojgjhfmmohbaaGreatSetBytes
import Derived.Laws.Bits64b
import Derived.Lib.Strings
import Derived.Lib.Slices
import Derived.Lib.Small
import Derived.Lib.Walk
import Derived.Lib.BitFns
import Derived.Deep.Light
namespace Go.Proofs.YtoojgjhfmmohbaaGreat
open Go.RowKit Dig
set_option linter.unusedVariables false
set_option linter.unusedSimpArgs false
set_option maxRecDepth 100000

def Sme (x : Nat) (t : Int) : Prop := ∃ y : Nat, t = y ∧ y < 18446744073709551616 ∧ x ≤ y ∧ ∀ L, x < 2 ^ L → y < 2 ^ L
theorem Sme.or {x : Nat} {t u : Int} (h : Sme x t) (d : Nat) (hd : 0 < d) (hu : u = t / (d : Int)) : Sme x (bits BinOp.or IntKind.u64 t u) := by
  obtain ⟨y, rfl, h1, h2, h3⟩ := h
  have hu' : u = ((y / d : Nat) : Int) := by rw [hu]; simp
  have hy : y / d ≤ y := Nat.div_le_self _ _
  rw [hu', bits_or_u64_nat y (y / d) h1 (by omega)]
  refine ⟨_, rfl, Nat.or_lt_two_pow (n := 64) h1 (by omega), Nat.le_trans h2 Nat.left_le_or, fun L hL => ?_⟩
  have := h3 L hL
  exact Nat.or_lt_two_pow this (by omega)
theorem Nrm.last {xs : List Nat} (h : Nrm xs) (hne : xs ≠ []) : xs.getD (xs.length - 1) 0 ≠ 0 := by
  have hp := List.length_pos_iff.2 hne
  unfold Nrm at h
  rw [List.getLast?_eq_getElem?] at h
  rw [List.getD_eq_getElem?_getD]
  rw [List.getElem?_eq_getElem (by omega)] at h ⊢
  intro h0; apply h; simpa using h0

end Go.Proofs.YtoojgjhfmmohbaaGreat
