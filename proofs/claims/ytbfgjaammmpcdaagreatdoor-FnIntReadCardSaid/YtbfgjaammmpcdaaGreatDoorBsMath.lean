/- Long division of bytes, digit by digit; a store into a row of one's own. No function of the program. -/
import Derived.Test.YtbfgjaammmpcdaaGreatDoorMBase
import Derived.Test.YtbfgjaammmpcdaaGreatDoorMIr
import Derived.OneCell
namespace Go.Proofs.YtbfgjaammmpcdaaGreatDoor
open Go.RowKit Dig
set_option linter.unusedVariables false
set_option linter.unusedSimpArgs false

namespace Dig
/-- the quotient's bytes, and what is left, of bytes behind a rest L -/
def dvq (b : Nat) : Nat → List Nat → List Nat
  | _, [] => []
  | L, m :: ms => (L * 256 + m) / b :: dvq b ((L * 256 + m) % b) ms
def dvr (b : Nat) : Nat → List Nat → Nat
  | L, [] => L
  | L, m :: ms => dvr b ((L * 256 + m) % b) ms
theorem dvq_length (b : Nat) : ∀ (ms : List Nat) (L : Nat), (dvq b L ms).length = ms.length
  | [], L => rfl
  | m :: ms, L => by simp [dvq, dvq_length b ms]
theorem dvr_lt (b : Nat) (hb : 0 < b) : ∀ (ms : List Nat) (L : Nat), L < b → dvr b L ms < b
  | [], L, h => h
  | m :: ms, L, h => dvr_lt b hb ms _ (Nat.mod_lt _ hb)
theorem dvq_lt (b : Nat) (hb : 0 < b) : ∀ (ms : List Nat) (L : Nat), L < b → (∀ x ∈ ms, x < 256) → ∀ x ∈ dvq b L ms, x < 256
  | [], L, h, hm, x, hx => by simp [dvq] at hx
  | m :: ms, L, h, hm, x, hx => by
    rcases List.mem_cons.1 hx with rfl | hx
    · exact (div_round b L m 0 hb h (hm m (by simp))).1
    · exact dvq_lt b hb ms _ (Nat.mod_lt _ hb) (fun y hy => hm y (by simp [hy])) x hx
theorem dvq_snoc (b m : Nat) : ∀ (ms : List Nat) (L : Nat), dvq b L (ms ++ [m]) = dvq b L ms ++ [(dvr b L ms * 256 + m) / b]
  | [], L => rfl
  | x :: ms, L => by simp [dvq, dvr, dvq_snoc b m ms]
theorem dvr_snoc (b m : Nat) : ∀ (ms : List Nat) (L : Nat), dvr b L (ms ++ [m]) = (dvr b L ms * 256 + m) % b
  | [], L => rfl
  | x :: ms, L => by simp [dvr, dvr_snoc b m ms]
theorem dv_val (b : Nat) (hb : 0 < b) : ∀ (n : Nat) (ms : List Nat), ms.length = n → hval 256 (dvq b 0 ms) = hval 256 ms / b ∧ dvr b 0 ms = hval 256 ms % b
  | 0, ms, h => by
    rw [List.eq_nil_of_length_eq_zero h]
    exact ⟨by simp [dvq, hval], by simp [dvr, hval]⟩
  | n + 1, ms, h => by
    have hne : ms ≠ [] := by intro h0; rw [h0] at h; simp at h
    obtain ⟨zs, z, rfl⟩ : ∃ zs z, ms = zs ++ [z] := ⟨ms.dropLast, ms.getLast hne, (List.dropLast_concat_getLast hne).symm⟩
    have hz : zs.length = n := by simpa using h
    obtain ⟨h1, h2⟩ := dv_val b hb n zs hz
    obtain ⟨k1, k2⟩ := div_next b (hval 256 zs) z hb
    rw [dvq_snoc, dvr_snoc, hval_snoc, hval_snoc, h1, h2]
    exact ⟨k1.symm, k2.symm⟩
theorem bval_hval (ms : List Nat) : bval ms = hval 256 ms := by unfold bval; rw [hval_eq]
theorem dv_bval (b : Nat) (hb : 0 < b) (ms : List Nat) : bval (dvq b 0 ms) = bval ms / b ∧ dvr b 0 ms = bval ms % b := by
  rw [bval_hval, bval_hval]; exact dv_val b hb _ ms rfl
/-- the row in the middle of the division -/
def dvm (b : Nat) (ms : List Nat) (i : Nat) : List Nat := dvq b 0 (ms.take i) ++ ms.drop i
theorem dvm_zero (b : Nat) (ms : List Nat) : dvm b ms 0 = ms := by simp [dvm, dvq]
theorem dvm_all (b : Nat) (ms : List Nat) : dvm b ms ms.length = dvq b 0 ms := by simp [dvm]
theorem dvm_length (b : Nat) (ms : List Nat) (i : Nat) (hi : i ≤ ms.length) : (dvm b ms i).length = ms.length := by
  simp [dvm, dvq_length]; omega
theorem dvm_get (b : Nat) (ms : List Nat) (i : Nat) (hi : i < ms.length) : (dvm b ms i).getD i 0 = ms.getD i 0 := by
  have hl : (dvq b 0 (ms.take i)).length = i := by simp [dvq_length]; omega
  unfold dvm
  rw [List.getD_eq_getElem?_getD, List.getElem?_append_right (by omega), hl, Nat.sub_self, List.getElem?_drop, Nat.add_zero, ← List.getD_eq_getElem?_getD]
theorem dvm_set (b : Nat) (ms : List Nat) (i : Nat) (hi : i < ms.length) : (dvm b ms i).set i ((dvr b 0 (ms.take i) * 256 + ms.getD i 0) / b) = dvm b ms (i + 1) := by
  have hl : (dvq b 0 (ms.take i)).length = i := by simp [dvq_length]; omega
  have e : ms.take (i + 1) = ms.take i ++ [ms.getD i 0] := by
    rw [List.take_add_one, List.getElem?_eq_getElem hi, List.getD_eq_getElem?_getD, List.getElem?_eq_getElem hi]; rfl
  unfold dvm
  rw [e, dvq_snoc, List.set_append_right _ _ (by omega), hl, Nat.sub_self, List.append_assoc]
  conv => lhs; rw [List.drop_eq_getElem_cons hi, List.set_cons_zero]
  rfl
theorem dvr_next (b : Nat) (ms : List Nat) (i : Nat) (hi : i < ms.length) : dvr b 0 (ms.take (i + 1)) = (dvr b 0 (ms.take i) * 256 + ms.getD i 0) % b := by
  have e : ms.take (i + 1) = ms.take i ++ [ms.getD i 0] := by
    rw [List.take_add_one, List.getElem?_eq_getElem hi, List.getD_eq_getElem?_getD, List.getElem?_eq_getElem hi]; rfl
  rw [e, dvr_snoc]
end Dig

/-- a store into a row of one's own -/
theorem own_set {w : World} {base e n c g : Nat} {xs : List Value} (h : w.ownsRow base e 1 (.slice (some ⟨g, 0, none⟩) n c) n xs) (i : Nat) (hi : i < n) (u : Value) :
    (w.setCell ⟨g, i, none⟩ u).ownsRow base e 1 (.slice (some ⟨g, 0, none⟩) n c) n (xs.set i u) := by
  refine ⟨by rw [List.length_set]; exact h.1, ?_⟩
  rcases h.2 with ⟨h', _⟩ | ⟨g', cap, cur, h', hb, hg, hn, hm, hs, ht⟩
  · simp at h'
  · simp only [Value.slice.injEq, Option.some.injEq, Addr.mk.injEq, and_true, true_and] at h'
    obtain ⟨rfl, rfl⟩ := h'
    have hB : Blk w g e cur.toList := by unfold Blk; rw [hg]
    have hB2 := hB.set i u
    refine .inr ⟨g, c, (cur.toList.set i u).toArray, rfl, hb, hB2, hn, hm, by simpa using hs, ?_⟩
    rw [Nat.mul_one] at ht ⊢
    show ((cur.toList.set i u)).take n = _
    rw [← ht, List.take_set]
/-- it reads as its list -/
theorem own_cell {w : World} {base e n c g : Nat} {xs : List Value} (h : w.ownsRow base e 1 (.slice (some ⟨g, 0, none⟩) n c) n xs) (i : Nat) (hi : i < n) : w.cell? ⟨g, i, none⟩ = some (xs.getD i undef) := by
  have hl : xs.length = n := by have := h.1; omega
  rw [h.cellAt i (by omega), List.getElem?_eq_getElem (by omega), List.getD_eq_getElem?_getD, List.getElem?_eq_getElem (by omega)]; rfl
theorem own_free {w : World} {base e n c g : Nat} {xs : List Value} (h : w.ownsRow base e 1 (.slice (some ⟨g, 0, none⟩) n c) n xs) (i : Nat) : w.frozen? ⟨g, i, none⟩ = false := by
  rcases h.2 with ⟨h', _⟩ | ⟨g', cap, cur, h', hb, hg, hn, hm, hs, ht⟩
  · simp at h'
  · simp only [Value.slice.injEq, Option.some.injEq, Addr.mk.injEq, and_true, true_and] at h'
    obtain ⟨rfl, rfl⟩ := h'
    have hB : Blk w g e cur.toList := by unfold Blk; rw [hg]
    exact hB.free i
/-- a row that is not empty lies in a block -/
theorem own_form {w : World} {base e n : Nat} {v : Value} {xs : List Value} (h : w.ownsRow base e 1 v n xs) (hn : n ≠ 0) : ∃ g c, v = .slice (some ⟨g, 0, none⟩) n c ∧ base ≤ g ∧ n ≤ c := by
  rcases h.2 with ⟨_, h0⟩ | ⟨g, cap, cur, h', hb, hg, hn, hm, hs, ht⟩
  · exact absurd h0 hn
  · exact ⟨g, cap, h', hb, hn⟩
theorem own_shape {w : World} {base e n : Nat} {v : Value} {xs : List Value} (h : w.ownsRow base e 1 v n xs) : ∃ a c, v = .slice a n c := by
  rcases h.2 with ⟨h', h0⟩ | ⟨g, cap, cur, h', hb, hg, hn, hm, hs, ht⟩
  · exact ⟨none, 0, by rw [h', h0]⟩
  · exact ⟨_, cap, h'⟩
end Go.Proofs.YtbfgjaammmpcdaaGreatDoor
