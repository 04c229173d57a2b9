/- A slice argument of a law as a list of bytes. -/
import Derived.Test.YtpcnmgldmnncoaaGreatDoorMBase
namespace Go.Proofs.YtpcnmgldmnncoaaGreatDoor
open Go.RowKit Dig
set_option linter.unusedVariables false
set_option linter.unusedSimpArgs false
set_option maxRecDepth 100000

theorem lim_of (i : Int) (m : Nat) (h : i.natAbs < 256 ^ m) (hm : m ≤ 4096) : i.natAbs < lim := lt_lim h hm
theorem row_sl {w : World} {a : Option Addr} {len cap : Nat} {zs : List Int} (h : (a = none ∧ len = 0 ∧ cap = 0 ∧ zs = []) ∨ ∃ x, a = some x ∧ len ≤ cap ∧ cap ≤ maxLen ∧ zs.length = cap ∧ (∀ i, i < zs.length → w.cell? (x.add i) = some (.int .u8 (zs.getD i 0))) ∧ ∀ n ∈ zs, (Lit.int .u8 n).wf = true) :
    ∃ ms : List Nat, (∀ x ∈ ms, x < 256) ∧ ms.length = len ∧ len ≤ maxLen ∧ Sl w w.heap.size (.slice a len cap) (ms.map bv) := by
  rcases h with ⟨rfl, rfl, rfl, rfl⟩ | ⟨x, rfl, hl, hm, hz, hc, hwf⟩
  · exact ⟨[], by simp, rfl, by simp [maxLen], Sl.nil _ _⟩
  · have hb : ∀ n ∈ zs, 0 ≤ n ∧ n < 256 := by
      intro n hn
      have := hwf n hn
      simp only [Lit.wf, Bool.and_eq_true, decide_eq_true_eq] at this
      have e1 : IntKind.u8.min = 0 := by decide
      have e2 : IntKind.u8.max = 255 := by decide
      omega
    refine ⟨(zs.take len).map Int.toNat, ?_, by simp; omega, by omega, ?_⟩
    · intro u hu
      obtain ⟨n, hn, rfl⟩ := List.mem_map.1 hu
      have := hb n (List.mem_of_mem_take hn)
      omega
    · refine ⟨some x, cap, by simp; omega, by simp; omega, fun hne => ?_⟩
      have hpos : 0 < len := by
        rcases Nat.eq_zero_or_pos len with h0 | h0
        · subst h0; simp at hne
        · exact h0
      have h0 := hc 0 (by omega)
      have hx : x = ⟨x.block, x.off, none⟩ := by
        obtain ⟨b, o, s⟩ := x
        cases s with
        | none => rfl
        | some s =>
          exfalso
          simp only [Addr.add, if_true] at h0
          unfold World.cell? at h0
          split at h0
          · simp at h0
          · cases h0
      refine ⟨x.block, x.off, by rw [← hx], ?_, ?_⟩
      · rw [show x.add 0 = x from by simp [Addr.add]] at h0
        rw [hx] at h0
        exact lt_of_cell h0
      · intro i hi
        simp only [List.length_map, List.length_take] at hi
        have hi2 : i < len := by omega
        have := hc i (by omega)
        rw [hx, add_zero_off] at this
        rw [this]
        have hzi : i < zs.length := by omega
        have hbi := hb zs[i] (List.getElem_mem hzi)
        simp [List.getD_eq_getElem?_getD, List.getElem?_eq_getElem hzi, List.getElem?_take, hi2, bv]
        omega

end Go.Proofs.YtpcnmgldmnncoaaGreatDoor
