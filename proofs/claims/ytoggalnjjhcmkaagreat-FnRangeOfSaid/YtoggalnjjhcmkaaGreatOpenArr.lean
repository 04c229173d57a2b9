/- An array of three impl.Vals that came in. -/
import Derived.Test.YtoggalnjjhcmkaaGreatOpenVal
namespace Go.Proofs.YtoggalnjjhcmkaaGreat
open Go.ChangeShapes Go.WideShapes Go.ChangeAt Go.RowKit Go.Deep Dig
set_option linter.unusedVariables false
set_option linter.unusedSimpArgs false
set_option maxRecDepth 100000

def of3 {α : Type} (a b c : α) : Nat → α
  | 0 => a
  | 1 => b
  | _ => c
theorem open_arr3 {H : Type} {enc : TypeId × Value → H} {w : World} {base b0 : Nat} {held : Bool} {r : Reach} {v : Value} {d : DataW H} {p : List MemPlace} (hv : Value.okWide Tryz.prog w r b0 27 v) (h : DataW.Trod enc Tryz.prog w base (fun _ => true) held 27 v d p) :
    ∃ (kd : Nat → Int) (nb : Nat → Bool) (ma : Nat → Option Addr) (ml mc : Nat → Nat) (ub : Nat → Int) (tx : Nat → ByteArray) (ka : Nat → Option Addr) (kn kc : Nat → Nat) (ms : Nat → List Nat),
      v = .agg #[.int .i64 (kd 0), .bool (nb 0), .slice (ma 0) (ml 0) (mc 0), .int .u64 (ub 0), .string (tx 0), .slice (ka 0) (kn 0) (kc 0), .int .i64 (kd 1), .bool (nb 1), .slice (ma 1) (ml 1) (mc 1), .int .u64 (ub 1), .string (tx 1), .slice (ka 1) (kn 1) (kc 1), .int .i64 (kd 2), .bool (nb 2), .slice (ma 2) (ml 2) (mc 2), .int .u64 (ub 2), .string (tx 2), .slice (ka 2) (kn 2) (kc 2)] ∧
      (∀ j, j < 3 → ValIn w (kd j) (nb j) (ma j) (ml j) (mc j) (ub j) (tx j) (ka j) (kn j) (kc j) (ms j)) ∧ ((∀ n ∈ DataW.weights Tryz.prog 27 d, n ≤ reachBytes) → ∀ j, j < 3 → (ms j).length ≤ reachBytes) := by
  have hcs : ∃ cs, v = .agg cs ∧ cs.size = Tryz.prog.cellsOf 27 := by
    simp only [Value.okWide, Tryz.underlying27] at hv
    obtain ⟨cs, h1, h2, _⟩ := hv
    exact ⟨cs, h1, h2⟩
  obtain ⟨cs, rfl, hsz⟩ := hcs
  obtain ⟨l⟩ := cs
  obtain ⟨fuel, hf⟩ := h
  have hf' : DataW.trod enc Tryz.prog w base (fun _ => true) held fuel 27 l = some (d, p) := by simpa [Value.cells] using hf
  obtain ⟨xs, m, _, hde, _, hxl, hx⟩ := DataW.trod_array Tryz.underlying27 hf'
  have hC : Tryz.prog.cellsOf 27 = 18 := by kernel_rfl
  have k6 : Tryz.prog.cellsOf 26 = 6 := by kernel_rfl
  rw [hC] at hsz
  have hl : l.length = 18 := by simpa using hsz
  rw [k6] at hx
  have g : ∀ i, i < 3 → ∃ y, DataW.trod enc Tryz.prog w base (fun _ => true) held m 26 ((l.drop (i * 6)).take 6) = some y ∧ ∀ n ∈ DataW.weights Tryz.prog 26 y.1, n ∈ DataW.weights Tryz.prog 27 d := by
    intro i hi
    rw [hx i hi]
    refine ⟨_, List.getElem?_eq_getElem (by omega), fun n hn => ?_⟩
    simp only [Prod.mk.injEq] at hde
    rw [hde.1]
    simp only [DataW.weights, Tryz.underlying27]
    have all : ∀ (zs : List (DataW H)) (z : DataW H), z ∈ zs → n ∈ DataW.weights Tryz.prog 26 z → n ∈ DataW.weightsAll Tryz.prog 26 zs := by
      intro zs
      induction zs with
      | nil => intro z hz; cases hz
      | cons y ys ih =>
        intro z hz hn
        simp only [DataW.weightsAll, List.mem_append]
        rcases List.mem_cons.1 hz with rfl | hz
        · exact .inl hn
        · exact .inr (ih z hz hn)
    exact all _ _ (List.mem_map.2 ⟨_, List.getElem_mem _, rfl⟩) hn
  obtain ⟨y0, g0, s0⟩ := g 0 (by omega)
  obtain ⟨y1, g1, s1⟩ := g 1 (by omega)
  obtain ⟨y2, g2, s2⟩ := g 2 (by omega)
  obtain ⟨a0, a1, a2, a3, a4, a5, a6, a7, a8, a9, a10, ea, va, t0⟩ := open_val g0
  obtain ⟨b0, b1, b2, b3, b4, b5, b6, b7, b8, b9, b10, eb, vb, t1⟩ := open_val g1
  obtain ⟨c0, c1, c2, c3, c4, c5, c6, c7, c8, c9, c10, ec, vc, t2⟩ := open_val g2
  have e : l = (l.drop 0).take 6 ++ ((l.drop 6).take 6 ++ (l.drop 12).take 6) := by
    have h1 : (l.drop 12).take 6 = l.drop 12 := List.take_of_length_le (by simp; omega)
    have h2 : (l.drop 6).take 6 ++ l.drop 12 = l.drop 6 := by
      have := List.take_append_drop 6 (l.drop 6)
      rwa [List.drop_drop] at this
    have h3 : (l.drop 0).take 6 ++ l.drop 6 = l := by
      simp
    rw [h1, h2, h3]
  refine ⟨of3 a0 b0 c0, of3 a1 b1 c1, of3 a2 b2 c2, of3 a3 b3 c3, of3 a4 b4 c4, of3 a5 b5 c5, of3 a6 b6 c6, of3 a7 b7 c7, of3 a8 b8 c8, of3 a9 b9 c9, of3 a10 b10 c10, ?_, ?_, ?_⟩
  · have e' : l = (l.drop (0 * 6)).take 6 ++ ((l.drop (1 * 6)).take 6 ++ (l.drop (2 * 6)).take 6) := e
    rw [ea, eb, ec] at e'
    rw [e']
    rfl
  · intro j hj
    match j, hj with
    | 0, _ => exact va
    | 1, _ => exact vb
    | 2, _ => exact vc
  · intro hw j hj
    match j, hj with
    | 0, _ => exact (t0 (fun n hn => hw n (s0 n hn))).1
    | 1, _ => exact (t1 (fun n hn => hw n (s1 n hn))).1
    | 2, _ => exact (t2 (fun n hn => hw n (s2 n hn))).1
end Go.Proofs.YtoggalnjjhcmkaaGreat
