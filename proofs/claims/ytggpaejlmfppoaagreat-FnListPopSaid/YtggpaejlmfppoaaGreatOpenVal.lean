/- An impl.Val that came in: its six cells, and the bytes of its number. -/
import Derived.Test.YtggpaejlmfppoaaGreatRowSl
import Derived.Test.YtggpaejlmfppoaaGreatProg
import Derived.OpenShut
import Derived.ShutString
import Derived.ChangeOld
import Derived.Deep.Slices
namespace Go.Proofs.YtggpaejlmfppoaaGreat
open Go.ChangeShapes Go.WideShapes Go.ChangeAt Go.RowKit Go.Deep Dig
set_option linter.unusedVariables false
set_option linter.unusedSimpArgs false
set_option maxRecDepth 100000

/-- what is known of the six cells -/
def ValIn (w : World) (kd : Int) (nb : Bool) (ma : Option Addr) (ml mc : Nat) (ub : Int) (tx : ByteArray) (ka : Option Addr) (kn kc : Nat) (ms : List Nat) : Prop :=
  ml = ms.length ∧ (∀ x ∈ ms, x < 256) ∧ ms.length ≤ maxLen ∧ Sl w w.heap.size (.slice ma ml mc) (ms.map bv) ∧ tx.size ≤ maxLen ∧ kn ≤ maxLen ∧ (Lit.int .i64 kd).wf = true ∧ (Lit.int .u64 ub).wf = true
theorem open_val {H : Type} {enc : TypeId × Value → H} {w : World} {base : Nat} {held : Bool} {fuel : Nat} {cs : List Value} {x : DataW H × List MemPlace} (h : DataW.trod enc Tryz.prog w base (fun _ => true) held fuel 27 cs = some x) :
    ∃ (kd : Int) (nb : Bool) (ma : Option Addr) (ml mc : Nat) (ub : Int) (tx : ByteArray) (ka : Option Addr) (kn kc : Nat) (ms : List Nat), cs = [.int .i64 kd, .bool nb, .slice ma ml mc, .int .u64 ub, .string tx, .slice ka kn kc] ∧ ValIn w kd nb ma ml mc ub tx ka kn kc ms ∧ ((∀ n ∈ DataW.weights Tryz.prog 27 x.1, n ≤ reachBytes) → ms.length ≤ reachBytes ∧ tx.size ≤ reachBytes) := by
  obtain ⟨ys, n, _, hxe, hcl, hyl, hf⟩ := DataW.trod_struct Tryz.underlying27 h
  have hC : Tryz.prog.cellsOf 27 = 6 := by kernel_rfl
  rw [hC] at hcl
  match cs, hcl with
  | [c0, c1, c2, c3, c4, c5], _ =>
    have k3 : Tryz.prog.cellsOf 3 = 1 := by kernel_rfl
    have k4 : Tryz.prog.cellsOf 4 = 1 := by kernel_rfl
    have k22 : Tryz.prog.cellsOf 24 = 1 := by kernel_rfl
    have k23 : Tryz.prog.cellsOf 25 = 1 := by kernel_rfl
    have k9 : Tryz.prog.cellsOf 9 = 1 := by kernel_rfl
    have k24 : Tryz.prog.cellsOf 22 = 1 := by kernel_rfl
    match ys, hyl with
    | [y0, y1, y2, y3, y4, y5], _ =>
      have f0 : DataW.trod enc Tryz.prog w base (fun _ => true) held n 3 (([c0, c1, c2, c3, c4, c5].drop 0).take (Tryz.prog.cellsOf 3)) = some y0 := hf 0 _ rfl
      rw [k3] at f0
      have f0 : DataW.trod enc Tryz.prog w base (fun _ => true) held n 3 [c0] = some y0 := f0
      have f1 : DataW.trod enc Tryz.prog w base (fun _ => true) held n 4 (([c0, c1, c2, c3, c4, c5].drop 1).take (Tryz.prog.cellsOf 4)) = some y1 := hf 1 _ rfl
      rw [k4] at f1
      have f1 : DataW.trod enc Tryz.prog w base (fun _ => true) held n 4 [c1] = some y1 := f1
      have f2 : DataW.trod enc Tryz.prog w base (fun _ => true) held n 24 (([c0, c1, c2, c3, c4, c5].drop 2).take (Tryz.prog.cellsOf 24)) = some y2 := hf 2 _ rfl
      rw [k22] at f2
      have f2 : DataW.trod enc Tryz.prog w base (fun _ => true) held n 24 [c2] = some y2 := f2
      have f3 : DataW.trod enc Tryz.prog w base (fun _ => true) held n 25 (([c0, c1, c2, c3, c4, c5].drop 3).take (Tryz.prog.cellsOf 25)) = some y3 := hf 3 _ rfl
      rw [k23] at f3
      have f3 : DataW.trod enc Tryz.prog w base (fun _ => true) held n 25 [c3] = some y3 := f3
      have f4 : DataW.trod enc Tryz.prog w base (fun _ => true) held n 9 (([c0, c1, c2, c3, c4, c5].drop 4).take (Tryz.prog.cellsOf 9)) = some y4 := hf 4 _ rfl
      rw [k9] at f4
      have f4 : DataW.trod enc Tryz.prog w base (fun _ => true) held n 9 [c4] = some y4 := f4
      have f5 : DataW.trod enc Tryz.prog w base (fun _ => true) held n 22 (([c0, c1, c2, c3, c4, c5].drop 5).take (Tryz.prog.cellsOf 22)) = some y5 := hf 5 _ rfl
      rw [k24] at f5
      have f5 : DataW.trod enc Tryz.prog w base (fun _ => true) held n 22 [c5] = some y5 := f5
      obtain ⟨kd, e0, _, w0⟩ := DataW.trod_int Tryz.underlying3 f0
      obtain ⟨nb, e1, _⟩ := DataW.trod_bool Tryz.underlying4 f1
      obtain ⟨ub, e3, _, w3⟩ := DataW.trod_int Tryz.underlying25 f3
      obtain ⟨tx, e4, z4, w4⟩ := DataW.trod_string Tryz.underlying9 f4
      obtain ⟨ka, kn, kc, e5, w5⟩ : ∃ ka kn kc, [c5] = [.slice ka kn kc] ∧ kn ≤ maxLen := by
        rcases open_slice Tryz.underlying22 f5 with ⟨e5, _⟩ | ⟨a, len, cap, m, n', D, Pl, e5, hb, hl, hm, _⟩
        · exact ⟨none, 0, 0, e5, Nat.zero_le _⟩
        · exact ⟨some a, len, cap, e5, by omega⟩
      obtain ⟨ma, ml, mc, ms, e2, h1, h2, h3, h4, h5⟩ : ∃ ma ml mc, ∃ ms : List Nat, [c2] = [.slice ma ml mc] ∧ (∀ x ∈ ms, x < 256) ∧ ms.length = ml ∧ ml ≤ maxLen ∧ Sl w w.heap.size (.slice ma ml mc) (ms.map bv) ∧ ((∀ n ∈ DataW.weights Tryz.prog 24 y2.1, n ≤ reachBytes) → ml ≤ reachBytes) := by
        rcases open_ints Tryz.underlying24 Tryz.underlying5 (by kernel_rfl) f2 with ⟨hcs, _⟩ | ⟨x, l, c, zs, hcs, _, hl, hm, hz, hx2, hcell, hwz⟩
        · obtain ⟨ms, g1, g2, g3, g4⟩ := row_sl (w := w) (a := none) (len := 0) (cap := 0) (zs := []) (.inl ⟨rfl, rfl, rfl, rfl⟩)
          exact ⟨none, 0, 0, ms, hcs, g1, g2, g3, g4, fun _ => Nat.zero_le _⟩
        · obtain ⟨ms, g1, g2, g3, g4⟩ := row_sl (w := w) (a := some x) (len := l) (cap := c) (zs := zs) (.inr ⟨x, rfl, hl, hm, by simpa using hz, hcell, hwz⟩)
          refine ⟨some x, l, c, ms, hcs, g1, g2, g3, g4, fun hw => ?_⟩
          rw [hx2] at hw
          have := hw (((lits (H := H) .u8 (zs.take l)).length + (lits (H := H) .u8 (zs.drop l)).length) * Tryz.prog.bytesOf 5) (by simp [DataW.weights, Tryz.underlying24])
          have hb1 : Tryz.prog.bytesOf 5 = 1 := by kernel_rfl
          rw [hb1] at this
          simp [lits] at this hz
          omega
      simp only [List.cons.injEq, and_true] at e0 e1 e2 e3 e4 e5
      subst e0 e1 e2 e3 e4 e5
      refine ⟨kd, nb, ma, ml, mc, ub, tx, ka, kn, kc, ms, rfl, ⟨h2.symm, h1, by omega, h4, w4, w5, w0, w3⟩, fun hw => ?_⟩
      rw [hxe] at hw
      have hw2 : ∀ n ∈ DataW.weights Tryz.prog 24 y2.1, n ≤ reachBytes := fun n hn => hw n (by simp [DataW.weights, Tryz.underlying27, DataW.weightsEach, hn])
      have hw4 : ∀ n ∈ DataW.weights Tryz.prog 9 y4.1, n ≤ reachBytes := fun n hn => hw n (by simp [DataW.weights, Tryz.underlying27, DataW.weightsEach, hn])
      refine ⟨by rw [h2]; exact h5 hw2, ?_⟩
      rw [z4] at hw4
      have := hw4 tx.size (by simp [DataW.weights])
      exact this
end Go.Proofs.YtggpaejlmfppoaaGreat
