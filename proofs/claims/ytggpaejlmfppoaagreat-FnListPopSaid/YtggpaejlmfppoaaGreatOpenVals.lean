/- A slice of impl.Vals that came in: each element's six cells, and the bytes of its number. -/
import Derived.Test.YtggpaejlmfppoaaGreatOpenVal
import Derived.Test.YtggpaejlmfppoaaGreatListOf
namespace Go.Proofs.YtggpaejlmfppoaaGreat
open Go.ChangeShapes Go.WideShapes Go.ChangeAt Go.RowKit Go.Deep Dig
set_option linter.unusedVariables false
set_option linter.unusedSimpArgs false
set_option maxRecDepth 100000

theorem RawE.of_in {w : World} {b o : Nat} {kd : Int} {nb : Bool} {ma : Option Addr} {ml mc : Nat} {ub : Int} {tx : ByteArray} {ka : Option Addr} {kn kc : Nat} {ms : List Nat} (h : ValIn w kd nb ma ml mc ub tx ka kn kc ms)
    (hc : ∀ i, i < 6 → w.cell? ⟨b, o + i, none⟩ = ([.int .i64 kd, .bool nb, .slice ma ml mc, .int .u64 ub, .string tx, .slice ka kn kc] : List Value)[i]?) : RawE w b o := by
  obtain ⟨h1, h2, h3, h4, h5, h6, h7, h8⟩ := h
  have k1 : -9223372036854775808 ≤ kd ∧ kd ≤ 9223372036854775807 := by
    simp only [Lit.wf, Bool.and_eq_true, decide_eq_true_eq] at h7
    have e1 : IntKind.i64.min = -9223372036854775808 := by decide
    have e2 : IntKind.i64.max = 9223372036854775807 := by decide
    omega
  have k2 : 0 ≤ ub := by
    simp only [Lit.wf, Bool.and_eq_true, decide_eq_true_eq] at h8
    have e1 : IntKind.u64.min = 0 := by decide
    omega
  exact ⟨kd, nb, ma, ml, mc, ub, tx, ka, kn, kc, ms, ⟨hc 0 (by omega), hc 1 (by omega), hc 2 (by omega), hc 3 (by omega), hc 4 (by omega), hc 5 (by omega)⟩, k1.1, k1.2, k2, h2, h4⟩
theorem open_vals {H : Type} {enc : TypeId × Value → H} {w : World} {base b0 : Nat} {held : Bool} {r : Reach} {v : Value} {d : DataW H} {p : List MemPlace} (hv : Value.okWide Tryz.prog w r b0 22 v) (h : DataW.Trod enc Tryz.prog w base (fun _ => true) held 22 v d p) :
    ∃ (a : Option Addr) (l c : Nat), v = .slice a l c ∧ l ≤ c ∧ c ≤ maxLen ∧ RawL w a l := by
  have hcs : ∃ a l c, v = .slice a l c := by
    cases v <;> first | exact ⟨_, _, _, rfl⟩ | (exfalso; simp [Value.okWide, Cell.okWide, Cell.ok, Tryz.underlying22] at hv)
  obtain ⟨a, l, c, rfl⟩ := hcs
  obtain ⟨fuel, hf⟩ := h
  have hf' : DataW.trod enc Tryz.prog w base (fun _ => true) held fuel 22 [.slice a l c] = some (d, p) := by simpa [Value.cells] using hf
  rcases DataW.trod_slice Tryz.underlying22 hf' with ⟨h0, _⟩ | ⟨x, len, cap, elems, rest, n, _, hcs, _, _, hl, hm, hel, hE, _, _⟩
  · simp only [List.cons.injEq, Value.slice.injEq, and_true] at h0
    obtain ⟨rfl, rfl, rfl⟩ := h0
    exact ⟨_, _, _, rfl, Nat.le_refl _, Nat.zero_le _, .inl rfl⟩
  · simp only [List.cons.injEq, Value.slice.injEq, and_true] at hcs
    obtain ⟨rfl, rfl, rfl⟩ := hcs
    refine ⟨_, _, _, rfl, hl, hm, ?_⟩
    rcases Nat.eq_zero_or_pos l with h0 | hpos
    · exact .inl h0
    have k6 : Tryz.prog.cellsOf 27 = 6 := by kernel_rfl
    rw [k6] at hE
    have each : ∀ j, j < l → ∃ (kd : Int) (nb : Bool) (ma : Option Addr) (ml mc : Nat) (ub : Int) (tx : ByteArray) (ka : Option Addr) (kn kc : Nat) (ms : List Nat), ValIn w kd nb ma ml mc ub tx ka kn kc ms ∧ ∀ i, i < 6 → w.cell? ((x.add (j * 6)).add i) = ([.int .i64 kd, .bool nb, .slice ma ml mc, .int .u64 ub, .string tx, .slice ka kn kc] : List Value)[i]? := by
      intro j hj
      have := hE j hj
      rw [List.getElem?_eq_getElem (by omega), Option.bind_eq_some_iff] at this
      obtain ⟨cs, h1, h2⟩ := this
      obtain ⟨_, _, h3⟩ := World.cells?_some h1
      obtain ⟨kd, nb, ma, ml, mc, ub, tx, ka, kn, kc, ms, rfl, hin, _⟩ := open_val h2
      exact ⟨kd, nb, ma, ml, mc, ub, tx, ka, kn, kc, ms, hin, h3⟩
    have hx : x = ⟨x.block, x.off, none⟩ := by
      obtain ⟨kd, nb, ma, ml, mc, ub, tx, ka, kn, kc, ms, _, hc⟩ := each 0 hpos
      have h0 := hc 0 (by omega)
      obtain ⟨b, o, s⟩ := x
      cases s with
      | none => rfl
      | some s =>
        exfalso
        simp only [Addr.add, Nat.zero_mul, if_true] at h0
        unfold World.cell? at h0
        split at h0
        · simp at h0
        · cases h0
    refine .inr ⟨x.block, x.off, by rw [← hx], fun j hj => ?_⟩
    obtain ⟨kd, nb, ma, ml, mc, ub, tx, ka, kn, kc, ms, hin, hc⟩ := each j hj
    refine RawE.of_in hin fun i hi => ?_
    rw [← hc i hi, hx, add_zero_off, add_zero_off]
end Go.Proofs.YtggpaejlmfppoaaGreat
