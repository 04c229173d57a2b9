/- What a number is in memory: a nat (words), a *big.Int, a starlark.Int, a spec.Int, an impl.Val of the kind Int, each by the number that it stands for. No function of the program; types by their numbers. -/
import Derived.Test.YtoggalnjjhcmkaaGreatMem
import Derived.Test.YtoggalnjjhcmkaaGreatArith
namespace Go.Proofs.YtoggalnjjhcmkaaGreat
open Go.RowKit Dig
set_option linter.unusedVariables false
set_option linter.unusedSimpArgs false

/-- a slice of words that is the number m -/
def Nt (w : World) (B : Nat) (v : Value) (m : Nat) : Prop := ∃ xs, Rep 18446744073709551616 xs m ∧ Sl w B v (xs.map wv)
/-- a slice of bytes, the highest first, that is the number m -/
def By (w : World) (B : Nat) (v : Value) (m : Nat) : Prop := ∃ ms, Bytes ms m ∧ Sl w B v (ms.map bv)
/-- a spec.Int -/
def Sp (w : World) (B : Nat) (v : Value) (i : Int) : Prop := ∃ mag, v = .agg #[.bool (decide (i < 0)), mag] ∧ By w B mag i.natAbs
/-- an impl.Val of the kind Int -/
def Va (w : World) (B : Nat) (v : Value) (i : Int) : Prop := ∃ mag, v = .agg #[.int .i64 2, .bool (decide (i < 0)), mag, .int .u64 0, .string ByteArray.empty, .slice none 0 0] ∧ By w B mag i.natAbs

section
variable {w w' : World} {B : Nat} {v : Value} {m : Nat} {i : Int}
theorem Nt.keep (h : Nt w B v m) (hk : ∀ b o, b < B → w'.cell? ⟨b, o, none⟩ = w.cell? ⟨b, o, none⟩) : Nt w' B v m := by
  obtain ⟨xs, h1, h2⟩ := h; exact ⟨xs, h1, h2.keep hk⟩
theorem Nt.below (h : Nt w B v m) (hb : Below B w w') : Nt w' B v m := h.keep fun b o hlt => hb.cell (p := ⟨b, o, none⟩) hlt
theorem Nt.more {B' : Nat} (h : Nt w B v m) (hB : B ≤ B') : Nt w B' v m := by obtain ⟨xs, h1, h2⟩ := h; exact ⟨xs, h1, h2.more hB⟩
theorem Nt.here (h : Nt w B v m) : Nt w w.heap.size v m := by obtain ⟨xs, h1, h2⟩ := h; exact ⟨xs, h1, h2.here⟩
theorem Nt.drewN (h : Nt w B v m) (n : Nat) : Nt (w.drewN n) B v m := h
theorem By.keep (h : By w B v m) (hk : ∀ b o, b < B → w'.cell? ⟨b, o, none⟩ = w.cell? ⟨b, o, none⟩) : By w' B v m := by
  obtain ⟨xs, h1, h2⟩ := h; exact ⟨xs, h1, h2.keep hk⟩
theorem By.below (h : By w B v m) (hb : Below B w w') : By w' B v m := h.keep fun b o hlt => hb.cell (p := ⟨b, o, none⟩) hlt
theorem By.more {B' : Nat} (h : By w B v m) (hB : B ≤ B') : By w B' v m := by obtain ⟨xs, h1, h2⟩ := h; exact ⟨xs, h1, h2.more hB⟩
theorem By.here (h : By w B v m) : By w w.heap.size v m := by obtain ⟨xs, h1, h2⟩ := h; exact ⟨xs, h1, h2.here⟩
theorem By.drewN (h : By w B v m) (n : Nat) : By (w.drewN n) B v m := h
theorem Sp.below (h : Sp w B v i) (hb : Below B w w') : Sp w' B v i := by obtain ⟨mag, h1, h2⟩ := h; exact ⟨mag, h1, h2.below hb⟩
theorem Sp.more {B' : Nat} (h : Sp w B v i) (hB : B ≤ B') : Sp w B' v i := by obtain ⟨mag, h1, h2⟩ := h; exact ⟨mag, h1, h2.more hB⟩
theorem Sp.here (h : Sp w B v i) : Sp w w.heap.size v i := by obtain ⟨mag, h1, h2⟩ := h; exact ⟨mag, h1, h2.here⟩
theorem Sp.form (h : Sp w B v i) : ∃ (neg : Bool) (a : Option Addr) (k c : Nat), v = .agg #[.bool neg, .slice a k c] := by
  obtain ⟨mag, rfl, ms, _, a, c, rfl, _⟩ := h; exact ⟨_, a, _, c, rfl⟩
theorem Sp.drewN (h : Sp w B v i) (n : Nat) : Sp (w.drewN n) B v i := h
theorem Va.below (h : Va w B v i) (hb : Below B w w') : Va w' B v i := by obtain ⟨mag, h1, h2⟩ := h; exact ⟨mag, h1, h2.below hb⟩
theorem Va.more {B' : Nat} (h : Va w B v i) (hB : B ≤ B') : Va w B' v i := by obtain ⟨mag, h1, h2⟩ := h; exact ⟨mag, h1, h2.more hB⟩
theorem Va.here (h : Va w B v i) : Va w w.heap.size v i := by obtain ⟨mag, h1, h2⟩ := h; exact ⟨mag, h1, h2.here⟩
theorem Va.drewN (h : Va w B v i) (n : Nat) : Va (w.drewN n) B v i := h
end

/-- a *big.Int: a block of its own -/
def Bg (w : World) (B : Nat) (p : Option Addr) (i : Int) : Prop :=
  ∃ b abs, p = some ⟨b, 0, none⟩ ∧ b < B ∧ Blk w b 184 [.bool (decide (i < 0)), abs] ∧ Nt w B abs i.natAbs
/-- a starlark.Int: a small one is an int32, a great one is none -/
def In (w : World) (B : Nat) (v : Value) (i : Int) : Prop :=
  ∃ s p, v = .agg #[.int .i64 s, .pointer p] ∧ ((p = none ∧ s = i ∧ -2147483648 ≤ i ∧ i ≤ 2147483647) ∨ (s = 0 ∧ ¬ (-2147483648 ≤ i ∧ i ≤ 2147483647) ∧ Bg w B p i))
section
variable {w w' : World} {B : Nat} {v : Value} {p : Option Addr} {i : Int}
theorem Bg.below (h : Bg w B p i) (hb : Below B w w') : Bg w' B p i := by
  obtain ⟨b, abs, h1, h2, h3, h4⟩ := h; exact ⟨b, abs, h1, h2, h3.below hb h2, h4.below hb⟩
theorem Bg.more {B' : Nat} (h : Bg w B p i) (hB : B ≤ B') : Bg w B' p i := by
  obtain ⟨b, abs, h1, h2, h3, h4⟩ := h; exact ⟨b, abs, h1, by omega, h3, h4.more hB⟩
theorem Bg.here (h : Bg w B p i) : Bg w w.heap.size p i := by
  obtain ⟨b, abs, h1, h2, h3, h4⟩ := h; exact ⟨b, abs, h1, h3.lt, h3, h4.here⟩
theorem Bg.drewN (h : Bg w B p i) (n : Nat) : Bg (w.drewN n) B p i := h
theorem In.below (h : In w B v i) (hb : Below B w w') : In w' B v i := by
  obtain ⟨s, p, h1, h2⟩ := h
  refine ⟨s, p, h1, ?_⟩
  rcases h2 with h2 | ⟨h2, h3, h4⟩
  · exact .inl h2
  · exact .inr ⟨h2, h3, h4.below hb⟩
theorem In.more {B' : Nat} (h : In w B v i) (hB : B ≤ B') : In w B' v i := by
  obtain ⟨s, p, h1, h2⟩ := h
  refine ⟨s, p, h1, ?_⟩
  rcases h2 with h2 | ⟨h2, h3, h4⟩
  · exact .inl h2
  · exact .inr ⟨h2, h3, h4.more hB⟩
theorem In.here (h : In w B v i) : In w w.heap.size v i := by
  obtain ⟨s, p, h1, h2⟩ := h
  refine ⟨s, p, h1, ?_⟩
  rcases h2 with h2 | ⟨h2, h3, h4⟩
  · exact .inl h2
  · exact .inr ⟨h2, h3, h4.here⟩
theorem In.drewN (h : In w B v i) (n : Nat) : In (w.drewN n) B v i := h
end
end Go.Proofs.YtoggalnjjhcmkaaGreat
