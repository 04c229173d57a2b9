/- A file that came in, opened into plain trees (printed by genwkopen.py). -/
import Derived.Test.YtoojgjhfmmohbaaGreatMApp
import Derived.Test.YtoojgjhfmmohbaaGreatMFita
import Derived.Test.YtoojgjhfmmohbaaGreatProg
import Derived.OpenShut
import Derived.ShutString
import Derived.ChangeOld
import Derived.Deep.Slices
namespace Go.Proofs.YtoojgjhfmmohbaaGreat
open Go.ChangeShapes Go.WideShapes Go.ChangeAt Go.RowKit Go.Deep Dig
set_option linter.unusedVariables false
set_option linter.unusedSimpArgs false
set_option maxRecDepth 100000
def Rw (w : World) : Nat → Nat → Option Value := fun b o => w.cell? ⟨b, o, none⟩
theorem i64_of {n : Int} (h : (Lit.int .i64 n).wf = true) : I64 n := by
 simp only [Lit.wf, Bool.and_eq_true, decide_eq_true_eq] at h
 have e1 : IntKind.i64.min = -9223372036854775808 := by decide
 have e2 : IntKind.i64.max = 9223372036854775807 := by decide
 unfold I64
 omega
theorem u64_of {n : Int} (h : (Lit.int .u64 n).wf = true) : 0 ≤ n ∧ n ≤ 18446744073709551615 := by
 simp only [Lit.wf, Bool.and_eq_true, decide_eq_true_eq] at h
 have e1 : IntKind.u64.min = 0 := by decide
 have e2 : IntKind.u64.max = 18446744073709551615 := by decide
 omega
theorem add_zero_add (x : Addr) (j : Nat) : (x.add j).add 0 = x.add j := by
 obtain ⟨b, o, s⟩ := x
 cases s <;> simp [Addr.add]
theorem addr_none {w : World} {x : Addr} {v : Value} (h0 : w.cell? ((x.add 0).add 0) = some v) : x = ⟨x.block, x.off, none⟩ := by
 obtain ⟨b, o, s⟩ := x
 cases s with
 | none => rfl
 | some s =>
   exfalso
   simp only [Addr.add, if_true] at h0
   unfold World.cell? at h0
   split at h0
   · simp at h0
   · cases h0
theorem open_row {H : Type} {enc : TypeId × Value → H} {w : World} {base : Nat} {sp : Nat → Bool} {held : Bool} {t e : TypeId} {C fuel : Nat} {P : List Value → Prop} {v : Value} {x : DataW H × List MemPlace} (ht : Tryz.prog.underlying t = some (.slice e)) (hC : Tryz.prog.cellsOf e = C) (h : DataW.trod enc Tryz.prog w base sp held fuel t [v] = some x) (hP : ∀ n cs y, n < fuel → DataW.trod enc Tryz.prog w base sp held n e cs = some y → cs ≠ [] ∧ P cs) :
   (∃ a c, v = .slice a 0 c ∧ c ≤ maxLen) ∨ ∃ b o len cap, v = .slice (some ⟨b, o, none⟩) len cap ∧ len ≤ cap ∧ cap ≤ maxLen ∧ 0 < len ∧ ∀ j, j < len → ∃ cs, RdR (Rw w) b (o + j * C) cs ∧ P cs := by
 rcases DataW.trod_slice ht h with ⟨h0, _⟩ | ⟨x, len, cap, elems, rest, n, hn, hcs, _, _, hl, hm, hel, hE, _, _⟩
 · simp only [List.cons.injEq, and_true] at h0
   exact .inl ⟨none, 0, h0, Nat.zero_le _⟩
 · simp only [List.cons.injEq, and_true] at hcs
   rcases Nat.eq_zero_or_pos len with h0 | hpos
   · exact .inl ⟨some x, cap, by rw [hcs, h0], hm⟩
   rw [hC] at hE
   have each : ∀ j, j < len → ∃ cs, (∀ i, i < C → w.cell? ((x.add (j * C)).add i) = cs[i]?) ∧ cs.length = C ∧ cs ≠ [] ∧ P cs := by
     intro j hj
     have := hE j hj
     rw [List.getElem?_eq_getElem (by omega), Option.bind_eq_some_iff] at this
     obtain ⟨cs, h1, h2⟩ := this
     obtain ⟨_, h4, h3⟩ := World.cells?_some h1
     obtain ⟨h5, h6⟩ := hP n cs _ (by omega) h2
     exact ⟨cs, h3, h4, h5, h6⟩
   have hx : x = ⟨x.block, x.off, none⟩ := by
     obtain ⟨cs, h1, h2, h3, _⟩ := each 0 hpos
     have hC0 : 0 < C := by rw [← h2]; exact List.length_pos_iff.2 h3
     have h4 := h1 0 hC0
     rw [Nat.zero_mul, List.getElem?_eq_getElem (by omega)] at h4
     exact addr_none h4
   refine .inr ⟨x.block, x.off, len, cap, by rw [hcs, ← hx], hl, hm, hpos, fun j hj => ?_⟩
   obtain ⟨cs, h1, h2, _, h6⟩ := each j hj
   refine ⟨cs, fun i y hy => ?_, h6⟩
   have hi := (List.getElem?_eq_some_iff.1 hy).1
   have h3 := h1 i (by omega)
   rw [hy, hx] at h3
   unfold Rw
   rw [← h3, add_zero_off, add_zero_off]
theorem open_va {H : Type} {enc : TypeId × Value → H} {w : World} {base : Nat} {sp : Nat → Bool} {held : Bool} {fuel : Nat} {cs : List Value} {x : DataW H × List MemPlace} (h : DataW.trod enc Tryz.prog w base sp held fuel 73 cs = some x) : ∃ v v0 v1 v2 v3 v4 v5, cs = [v0, v1, v2, v3, v4, v5] ∧ VaR (Rw w) v [v0, v1, v2, v3, v4, v5] := by
 obtain ⟨ys, n, _, _, hcl, hyl, hf⟩ := DataW.trod_struct Tryz.underlying73 h
 have hC : Tryz.prog.cellsOf 73 = 6 := by kernel_rfl
 rw [hC] at hcl
 match cs, hcl with
 | [c0, c1, c2, c3, c4, c5], _ =>
   have kk0 : Tryz.prog.cellsOf 71 = 1 := by kernel_rfl
   have kk1 : Tryz.prog.cellsOf 69 = 1 := by kernel_rfl
   have kk2 : Tryz.prog.cellsOf 4 = 1 := by kernel_rfl
   have kk3 : Tryz.prog.cellsOf 3 = 1 := by kernel_rfl
   have kk4 : Tryz.prog.cellsOf 9 = 1 := by kernel_rfl
   have kk5 : Tryz.prog.cellsOf 70 = 1 := by kernel_rfl
   match ys, hyl with
   | [y0, y1, y2, y3, y4, y5], _ =>
     have f0 : DataW.trod enc Tryz.prog w base sp held n 3 (([c0, c1, c2, c3, c4, c5].drop 0).take (Tryz.prog.cellsOf 3)) = some y0 := hf 0 _ rfl
     rw [kk3] at f0
     have f0 : DataW.trod enc Tryz.prog w base sp held n 3 [c0] = some y0 := f0
     have f1 : DataW.trod enc Tryz.prog w base sp held n 4 (([c0, c1, c2, c3, c4, c5].drop 1).take (Tryz.prog.cellsOf 4)) = some y1 := hf 1 _ rfl
     rw [kk2] at f1
     have f1 : DataW.trod enc Tryz.prog w base sp held n 4 [c1] = some y1 := f1
     have f2 : DataW.trod enc Tryz.prog w base sp held n 69 (([c0, c1, c2, c3, c4, c5].drop 2).take (Tryz.prog.cellsOf 69)) = some y2 := hf 2 _ rfl
     rw [kk1] at f2
     have f2 : DataW.trod enc Tryz.prog w base sp held n 69 [c2] = some y2 := f2
     have f3 : DataW.trod enc Tryz.prog w base sp held n 70 (([c0, c1, c2, c3, c4, c5].drop 3).take (Tryz.prog.cellsOf 70)) = some y3 := hf 3 _ rfl
     rw [kk5] at f3
     have f3 : DataW.trod enc Tryz.prog w base sp held n 70 [c3] = some y3 := f3
     have f4 : DataW.trod enc Tryz.prog w base sp held n 9 (([c0, c1, c2, c3, c4, c5].drop 4).take (Tryz.prog.cellsOf 9)) = some y4 := hf 4 _ rfl
     rw [kk4] at f4
     have f4 : DataW.trod enc Tryz.prog w base sp held n 9 [c4] = some y4 := f4
     have f5 : DataW.trod enc Tryz.prog w base sp held n 71 (([c0, c1, c2, c3, c4, c5].drop 5).take (Tryz.prog.cellsOf 71)) = some y5 := hf 5 _ rfl
     rw [kk0] at f5
     have f5 : DataW.trod enc Tryz.prog w base sp held n 71 [c5] = some y5 := f5
     obtain ⟨kd, e0, _, w0⟩ := DataW.trod_int Tryz.underlying3 f0
     obtain ⟨nb, e1, _⟩ := DataW.trod_bool Tryz.underlying4 f1
     obtain ⟨ub, e3, _, w3⟩ := DataW.trod_int Tryz.underlying70 f3
     obtain ⟨tx, e4, _, w4⟩ := DataW.trod_string Tryz.underlying9 f4
     obtain ⟨ka, kn, kc, e5, w5⟩ : ∃ ka kn kc, [c5] = [.slice ka kn kc] ∧ kn ≤ maxLen := by
       rcases open_slice Tryz.underlying71 f5 with ⟨e5, _⟩ | ⟨a, len, cap, m, n', D, Pl, e5, hb, hl, hm, _⟩
       · exact ⟨none, 0, 0, e5, Nat.zero_le _⟩
       · exact ⟨some a, len, cap, e5, by omega⟩
     obtain ⟨ma, mc, ms, e2, h1, h4⟩ : ∃ ma mc, ∃ ms : List Nat, [c2] = [.slice ma ms.length mc] ∧ (∀ x ∈ ms, x < 256) ∧ SlR (Rw w) (.slice ma ms.length mc) (ms.map bv) := by
       rcases DataW.trod_slice Tryz.underlying69 f2 with ⟨hcs, _⟩ | ⟨x, l, c, elems, rest, n', _, hcs, _, _, hl, hm, hel, hE, _, _⟩
       · exact ⟨none, 0, [], hcs, by simp, ⟨none, 0, rfl, Nat.le_refl _, Nat.zero_le _, fun h => absurd rfl h⟩⟩
       · have hC1 : Tryz.prog.cellsOf 5 = 1 := by kernel_rfl
         rw [hC1] at hE
         have each : ∀ j, ∃ m : Nat, j < l → m < 256 ∧ w.cell? (x.add j) = some (bv m) := by
           intro j
           by_cases hj : j < l
           · have := hE j hj
             rw [List.getElem?_eq_getElem (by omega), Option.bind_eq_some_iff] at this
             obtain ⟨cs, g1, g2⟩ := this
             obtain ⟨g4, _, g3⟩ := World.cells?_some g1
             obtain ⟨z, g5, _, g6⟩ := DataW.trod_int Tryz.underlying5 g2
             have g7 := g3 0 (by omega)
             rw [g5] at g7
             simp only [Lit.wf, Bool.and_eq_true, decide_eq_true_eq] at g6
             have e1 : IntKind.u8.min = 0 := by decide
             have e2 : IntKind.u8.max = 255 := by decide
             refine ⟨z.toNat, fun _ => ⟨by omega, ?_⟩⟩
             have hz : ((z.toNat : Nat) : Int) = z := by omega
             unfold bv
             rw [hz, Nat.mul_one] at *
             rw [← add_zero_add x j]
             simpa using g7
           · exact ⟨0, fun h => absurd h hj⟩
         obtain ⟨f, hf⟩ := Classical.skolem.1 each
         refine ⟨some x, c, (List.range l).map f, by rw [hcs]; simp, by simp; intro j hj; exact (hf j hj).1, some x, c, by simp, by simpa using hl, hm, fun hne => ?_⟩
         have hpos : 0 < l := by
           rcases Nat.eq_zero_or_pos l with h0 | h0
           · subst h0; simp at hne
           · exact h0
         have hx : x = ⟨x.block, x.off, none⟩ := by
           have h0 := (hf 0 hpos).2
           rw [← add_zero_add x 0] at h0
           exact addr_none h0
         refine ⟨x.block, x.off, by rw [← hx], fun i y hy => ?_⟩
         have hi := (List.getElem?_eq_some_iff.1 hy).1
         simp only [List.length_map, List.length_range] at hi
         simp [hi] at hy
         subst hy
         have h0 := (hf i hi).2
         rw [hx, add_zero_off] at h0
         exact h0
     simp only [List.cons.injEq, and_true] at e0 e1 e2 e3 e4 e5
     subst e0 e1 e2 e3 e4 e5
     exact ⟨⟨kd, nb, ms, ub, tx, kn⟩, _, _, _, _, _, _, rfl, .mk ⟨kd, nb, ms, ub, tx, kn⟩ ma mc ka kc (i64_of w0) h4 h1 (u64_of w3) w4 w5⟩
def OpE (w : World) (v : Value) : Prop := ∃ l, ExL (Rw w) l v
def OpP (w : World) (v : Value) : Prop := ∃ l, PaL (Rw w) l v
theorem open_ep {H : Type} {enc : TypeId × Value → H} {w : World} {base : Nat} {sp : Nat → Bool} {held : Bool} (fuel : Nat) : (∀ v x, DataW.trod enc Tryz.prog w base sp held fuel 39 [v] = some x → OpE w v) ∧ (∀ v x, DataW.trod enc Tryz.prog w base sp held fuel 40 [v] = some x → OpP w v) := by
 induction fuel using Nat.strongRecOn with
 | _ fuel ih =>
   constructor
   · intro v x h
     rcases open_row (C := 11) (P := fun cs => ∃ t, ExV (Rw w) t cs) Tryz.underlying39 (by kernel_rfl) h (fun m cs y hm hcs => by
       obtain ⟨ys, n, hmn, _, hcl, hyl, hf⟩ := DataW.trod_struct Tryz.underlying75 hcs
       have hC : Tryz.prog.cellsOf 75 = 11 := by kernel_rfl
       rw [hC] at hcl
       match cs, hcl with
       | [c0, c1, c2, c3, c4, c5, c6, c7, c8, c9, c10], _ =>
       have kk0 : Tryz.prog.cellsOf 39 = 1 := by kernel_rfl
       have kk1 : Tryz.prog.cellsOf 40 = 1 := by kernel_rfl
       have kk2 : Tryz.prog.cellsOf 73 = 6 := by kernel_rfl
       have kk3 : Tryz.prog.cellsOf 3 = 1 := by kernel_rfl
       have kk4 : Tryz.prog.cellsOf 9 = 1 := by kernel_rfl
       match ys, hyl with
       | [y0, y1, y2, y3, y4, y5], _ =>
         have f0 : DataW.trod enc Tryz.prog w base sp held n 3 (([c0, c1, c2, c3, c4, c5, c6, c7, c8, c9, c10].drop 0).take (Tryz.prog.cellsOf 3)) = some y0 := hf 0 _ rfl
         rw [kk3] at f0
         have f0 : DataW.trod enc Tryz.prog w base sp held n 3 [c0] = some y0 := f0
         have f1 : DataW.trod enc Tryz.prog w base sp held n 3 (([c0, c1, c2, c3, c4, c5, c6, c7, c8, c9, c10].drop 1).take (Tryz.prog.cellsOf 3)) = some y1 := hf 1 _ rfl
         rw [kk3] at f1
         have f1 : DataW.trod enc Tryz.prog w base sp held n 3 [c1] = some y1 := f1
         have f2 : DataW.trod enc Tryz.prog w base sp held n 9 (([c0, c1, c2, c3, c4, c5, c6, c7, c8, c9, c10].drop 2).take (Tryz.prog.cellsOf 9)) = some y2 := hf 2 _ rfl
         rw [kk4] at f2
         have f2 : DataW.trod enc Tryz.prog w base sp held n 9 [c2] = some y2 := f2
         have f3 : DataW.trod enc Tryz.prog w base sp held n 73 (([c0, c1, c2, c3, c4, c5, c6, c7, c8, c9, c10].drop 3).take (Tryz.prog.cellsOf 73)) = some y3 := hf 3 _ rfl
         rw [kk2] at f3
         have f3 : DataW.trod enc Tryz.prog w base sp held n 73 [c3, c4, c5, c6, c7, c8] = some y3 := f3
         have f4 : DataW.trod enc Tryz.prog w base sp held n 39 (([c0, c1, c2, c3, c4, c5, c6, c7, c8, c9, c10].drop 9).take (Tryz.prog.cellsOf 39)) = some y4 := hf 4 _ rfl
         rw [kk0] at f4
         have f4 : DataW.trod enc Tryz.prog w base sp held n 39 [c9] = some y4 := f4
         have f5 : DataW.trod enc Tryz.prog w base sp held n 40 (([c0, c1, c2, c3, c4, c5, c6, c7, c8, c9, c10].drop 10).take (Tryz.prog.cellsOf 40)) = some y5 := hf 5 _ rfl
         rw [kk1] at f5
         have f5 : DataW.trod enc Tryz.prog w base sp held n 40 [c10] = some y5 := f5
         obtain ⟨kd, e0, _, w0⟩ := DataW.trod_int Tryz.underlying3 f0
         obtain ⟨op, e1, _, w1⟩ := DataW.trod_int Tryz.underlying3 f1
         obtain ⟨tx, e2, _, w2⟩ := DataW.trod_string Tryz.underlying9 f2
         obtain ⟨v, v0, v1, v2, v3, v4, v5, ev, hv⟩ := open_va f3
         obtain ⟨a, ha⟩ := (ih n (by omega)).1 _ _ f4
         obtain ⟨b, hb⟩ := (ih n (by omega)).2 _ _ f5
         simp only [List.cons.injEq, and_true] at e0 e1 e2 ev
         obtain ⟨rfl, rfl, rfl, rfl, rfl, rfl⟩ := ev
         subst e0 e1 e2
         exact ⟨by simp, _, .mk kd op tx v [] a b [] [] _ _ _ _ _ _ _ _ (i64_of w0) (i64_of w1) w2 hv ha hb⟩) with ⟨a, c, rfl, hc⟩ | ⟨b, o, len, cap, rfl, hl, hm, hpos, hrow⟩
     · exact ⟨[], .emp a c hc⟩
     · have each : ∀ j, ∃ t : Tr, j < len → ExA (Rw w) b (o + j * 11) t := by
         intro j
         by_cases hj : j < len
         · obtain ⟨cs, h1, t, h2⟩ := hrow j hj
           exact ⟨t, fun _ => .mk _ _ _ _ h1 h2⟩
         · exact ⟨.mk 0 0 ByteArray.empty ⟨0, false, [], 0, ByteArray.empty, 0⟩ [] [] [] [] [], fun h => absurd h hj⟩
       obtain ⟨f, hf⟩ := Classical.skolem.1 each
       have hlen : len = ((List.range len).map f).length := by simp
       refine ⟨(List.range len).map f, ?_⟩
       rw [hlen]
       have r := ExL.row (R := Rw w) ((List.range len).map f) b o cap (by simpa using hl) hm (fun i t ht => by
         have hi := (List.getElem?_eq_some_iff.1 ht).1
         simp only [List.length_map, List.length_range] at hi
         simp [hi] at ht
         subst ht
         exact hf i hi)
       simpa using r
   · intro v x h
     rcases open_row (C := 3) (P := fun cs => ∃ t, PaV (Rw w) t cs) Tryz.underlying40 (by kernel_rfl) h (fun m cs y hm hcs => by
       obtain ⟨ys, n, hmn, _, hcl, hyl, hf⟩ := DataW.trod_struct Tryz.underlying68 hcs
       have hC : Tryz.prog.cellsOf 68 = 3 := by kernel_rfl
       rw [hC] at hcl
       match cs, hcl with
       | [c0, c1, c2], _ =>
       have kk0 : Tryz.prog.cellsOf 39 = 1 := by kernel_rfl
       have kk1 : Tryz.prog.cellsOf 3 = 1 := by kernel_rfl
       have kk2 : Tryz.prog.cellsOf 9 = 1 := by kernel_rfl
       match ys, hyl with
       | [y0, y1, y2], _ =>
         have f0 : DataW.trod enc Tryz.prog w base sp held n 3 (([c0, c1, c2].drop 0).take (Tryz.prog.cellsOf 3)) = some y0 := hf 0 _ rfl
         rw [kk1] at f0
         have f0 : DataW.trod enc Tryz.prog w base sp held n 3 [c0] = some y0 := f0
         have f1 : DataW.trod enc Tryz.prog w base sp held n 9 (([c0, c1, c2].drop 1).take (Tryz.prog.cellsOf 9)) = some y1 := hf 1 _ rfl
         rw [kk2] at f1
         have f1 : DataW.trod enc Tryz.prog w base sp held n 9 [c1] = some y1 := f1
         have f2 : DataW.trod enc Tryz.prog w base sp held n 39 (([c0, c1, c2].drop 2).take (Tryz.prog.cellsOf 39)) = some y2 := hf 2 _ rfl
         rw [kk0] at f2
         have f2 : DataW.trod enc Tryz.prog w base sp held n 39 [c2] = some y2 := f2
         obtain ⟨kd, e0, _, w0⟩ := DataW.trod_int Tryz.underlying3 f0
         obtain ⟨tx, e2, _, w2⟩ := DataW.trod_string Tryz.underlying9 f1
         obtain ⟨a, ha⟩ := (ih n (by omega)).1 _ _ f2
         simp only [List.cons.injEq, and_true] at e0 e2
         subst e0 e2
         exact ⟨by simp, _, .mk kd 0 tx ⟨0, false, [], 0, ByteArray.empty, 0⟩ [] a [] [] [] _ (i64_of w0) w2 ha⟩) with ⟨a, c, rfl, hc⟩ | ⟨b, o, len, cap, rfl, hl, hm, hpos, hrow⟩
     · exact ⟨[], .emp a c hc⟩
     · have each : ∀ j, ∃ t : Tr, j < len → PaA (Rw w) b (o + j * 3) t := by
         intro j
         by_cases hj : j < len
         · obtain ⟨cs, h1, t, h2⟩ := hrow j hj
           exact ⟨t, fun _ => .mk _ _ _ _ h1 h2⟩
         · exact ⟨.mk 0 0 ByteArray.empty ⟨0, false, [], 0, ByteArray.empty, 0⟩ [] [] [] [] [], fun h => absurd h hj⟩
       obtain ⟨f, hf⟩ := Classical.skolem.1 each
       refine ⟨(List.range len).map f, ?_⟩
       have r := PaL.row (R := Rw w) ((List.range len).map f) b o cap (by simpa using hl) hm (fun i t ht => by
         have hi := (List.getElem?_eq_some_iff.1 ht).1
         simp only [List.length_map, List.length_range] at hi
         simp [hi] at ht
         subst ht
         exact hf i hi)
       simpa using r
theorem open_names {H : Type} {enc : TypeId × Value → H} {w : World} {base : Nat} {sp : Nat → Bool} {held : Bool} {fuel : Nat} {v : Value} {x : DataW H × List MemPlace} (h : DataW.trod enc Tryz.prog w base sp held fuel 30 [v] = some x) : ∃ nm : List ByteArray, SlR (Rw w) v (nm.map .string) ∧ ∀ s ∈ nm, s.size ≤ maxLen := by
 rcases open_row (C := 1) (P := fun cs => ∃ s : ByteArray, cs = [.string s] ∧ s.size ≤ maxLen) Tryz.underlying30 (by kernel_rfl) h (fun m cs y hm hcs => by
   obtain ⟨tx, e2, _, w2⟩ := DataW.trod_string Tryz.underlying9 hcs
   exact ⟨by rw [e2]; simp, tx, e2, w2⟩) with ⟨a, c, rfl, hc⟩ | ⟨b, o, len, cap, rfl, hl, hm, hpos, hrow⟩
 · exact ⟨[], ⟨a, c, rfl, Nat.zero_le _, hc, fun h => absurd rfl h⟩, by simp⟩
 · have each : ∀ j, ∃ s : ByteArray, j < len → s.size ≤ maxLen ∧ Rw w b (o + j) = some (.string s) := by
     intro j
     by_cases hj : j < len
     · obtain ⟨cs, h1, s, rfl, h2⟩ := hrow j hj
       exact ⟨s, fun _ => ⟨h2, by have h3 := h1 0 _ rfl; simpa using h3⟩⟩
     · exact ⟨ByteArray.empty, fun h => absurd h hj⟩
   obtain ⟨f, hf⟩ := Classical.skolem.1 each
   refine ⟨(List.range len).map f, ⟨some ⟨b, o, none⟩, cap, by simp, by simpa using hl, hm, fun _ => ⟨b, o, rfl, fun i y hy => ?_⟩⟩, by simp; intro j hj; exact (hf j hj).1⟩
   have hi := (List.getElem?_eq_some_iff.1 hy).1
   simp only [List.length_map, List.length_range] at hi
   simp [hi] at hy
   subst hy
   exact (hf i hi).2
theorem open_st {H : Type} {enc : TypeId × Value → H} {w : World} {base : Nat} {sp : Nat → Bool} {held : Bool} (fuel : Nat) : ∀ v x, DataW.trod enc Tryz.prog w base sp held fuel 22 [v] = some x → ∃ l, StL (Rw w) l v := by
 induction fuel using Nat.strongRecOn with
 | _ fuel ih =>
   intro v x h
   rcases open_row (C := 8) (P := fun cs => ∃ t, StV (Rw w) t cs) Tryz.underlying22 (by kernel_rfl) h (fun m cs y hm hcs => by
     obtain ⟨ys, n, hmn, _, hcl, hyl, hf⟩ := DataW.trod_struct Tryz.underlying42 hcs
     have hC : Tryz.prog.cellsOf 42 = 8 := by kernel_rfl
     rw [hC] at hcl
     match cs, hcl with
     | [c0, c1, c2, c3, c4, c5, c6, c7], _ =>
     have kk0 : Tryz.prog.cellsOf 39 = 1 := by kernel_rfl
     have kk1 : Tryz.prog.cellsOf 40 = 1 := by kernel_rfl
     have kk2 : Tryz.prog.cellsOf 22 = 1 := by kernel_rfl
     have kk3 : Tryz.prog.cellsOf 30 = 1 := by kernel_rfl
     have kk4 : Tryz.prog.cellsOf 3 = 1 := by kernel_rfl
     have kk5 : Tryz.prog.cellsOf 9 = 1 := by kernel_rfl
     match ys, hyl with
     | [y0, y1, y2, y3, y4, y5, y6, y7], _ =>
       have f0 : DataW.trod enc Tryz.prog w base sp held n 3 (([c0, c1, c2, c3, c4, c5, c6, c7].drop 0).take (Tryz.prog.cellsOf 3)) = some y0 := hf 0 _ rfl
       rw [kk4] at f0
       have f0 : DataW.trod enc Tryz.prog w base sp held n 3 [c0] = some y0 := f0
       have f1 : DataW.trod enc Tryz.prog w base sp held n 3 (([c0, c1, c2, c3, c4, c5, c6, c7].drop 1).take (Tryz.prog.cellsOf 3)) = some y1 := hf 1 _ rfl
       rw [kk4] at f1
       have f1 : DataW.trod enc Tryz.prog w base sp held n 3 [c1] = some y1 := f1
       have f2 : DataW.trod enc Tryz.prog w base sp held n 9 (([c0, c1, c2, c3, c4, c5, c6, c7].drop 2).take (Tryz.prog.cellsOf 9)) = some y2 := hf 2 _ rfl
       rw [kk5] at f2
       have f2 : DataW.trod enc Tryz.prog w base sp held n 9 [c2] = some y2 := f2
       have f3 : DataW.trod enc Tryz.prog w base sp held n 30 (([c0, c1, c2, c3, c4, c5, c6, c7].drop 3).take (Tryz.prog.cellsOf 30)) = some y3 := hf 3 _ rfl
       rw [kk3] at f3
       have f3 : DataW.trod enc Tryz.prog w base sp held n 30 [c3] = some y3 := f3
       have f4 : DataW.trod enc Tryz.prog w base sp held n 39 (([c0, c1, c2, c3, c4, c5, c6, c7].drop 4).take (Tryz.prog.cellsOf 39)) = some y4 := hf 4 _ rfl
       rw [kk0] at f4
       have f4 : DataW.trod enc Tryz.prog w base sp held n 39 [c4] = some y4 := f4
       have f5 : DataW.trod enc Tryz.prog w base sp held n 40 (([c0, c1, c2, c3, c4, c5, c6, c7].drop 5).take (Tryz.prog.cellsOf 40)) = some y5 := hf 5 _ rfl
       rw [kk1] at f5
       have f5 : DataW.trod enc Tryz.prog w base sp held n 40 [c5] = some y5 := f5
       have f6 : DataW.trod enc Tryz.prog w base sp held n 22 (([c0, c1, c2, c3, c4, c5, c6, c7].drop 6).take (Tryz.prog.cellsOf 22)) = some y6 := hf 6 _ rfl
       rw [kk2] at f6
       have f6 : DataW.trod enc Tryz.prog w base sp held n 22 [c6] = some y6 := f6
       have f7 : DataW.trod enc Tryz.prog w base sp held n 22 (([c0, c1, c2, c3, c4, c5, c6, c7].drop 7).take (Tryz.prog.cellsOf 22)) = some y7 := hf 7 _ rfl
       rw [kk2] at f7
       have f7 : DataW.trod enc Tryz.prog w base sp held n 22 [c7] = some y7 := f7
       obtain ⟨kd, e0, _, w0⟩ := DataW.trod_int Tryz.underlying3 f0
       obtain ⟨op, e1, _, w1⟩ := DataW.trod_int Tryz.underlying3 f1
       obtain ⟨tx, e2, _, w2⟩ := DataW.trod_string Tryz.underlying9 f2
       obtain ⟨nm, hn, hz⟩ := open_names f3
       obtain ⟨a, ha⟩ := (open_ep n).1 _ _ f4
       obtain ⟨b, hb⟩ := (open_ep n).2 _ _ f5
       obtain ⟨c, hc⟩ := ih n (by omega) _ _ f6
       obtain ⟨d, hd⟩ := ih n (by omega) _ _ f7
       simp only [List.cons.injEq, and_true] at e0 e1 e2
       subst e0 e1 e2
       exact ⟨by simp, _, .mk kd op tx ⟨0, false, [], 0, ByteArray.empty, 0⟩ nm a b c d _ _ _ _ _ (i64_of w0) (i64_of w1) w2 hn hz ha hb hc hd⟩) with ⟨a, c, rfl, hc⟩ | ⟨b, o, len, cap, rfl, hl, hm, hpos, hrow⟩
   · exact ⟨[], .emp a c hc⟩
   · have each : ∀ j, ∃ t : Tr, j < len → StA (Rw w) b (o + j * 8) t := by
       intro j
       by_cases hj : j < len
       · obtain ⟨cs, h1, t, h2⟩ := hrow j hj
         exact ⟨t, fun _ => .mk _ _ _ _ h1 h2⟩
       · exact ⟨.mk 0 0 ByteArray.empty ⟨0, false, [], 0, ByteArray.empty, 0⟩ [] [] [] [] [], fun h => absurd h hj⟩
     obtain ⟨f, hf⟩ := Classical.skolem.1 each
     refine ⟨(List.range len).map f, ?_⟩
     have r := StL.row (R := Rw w) ((List.range len).map f) b o cap (by simpa using hl) hm (fun i t ht => by
       have hi := (List.getElem?_eq_some_iff.1 ht).1
       simp only [List.length_map, List.length_range] at hi
       simp [hi] at ht
       subst ht
       exact hf i hi)
     simpa using r
theorem open_file {H : Type} {enc : TypeId × Value → H} {w : World} {base : Nat} {sp : Nat → Bool} {held : Bool} {r : Reach} {b0 : Nat} {v : Value} {d : DataW H} {p : List MemPlace} (hv : Value.okWide Tryz.prog w r b0 26 v) (h : DataW.Trod enc Tryz.prog w base sp held 26 v d p) :
   ∃ (nm : ByteArray) (l : List Tr) (sa : Option Addr) (sc : Nat) (o1 o2 o3 o4 o5 o6 : Bool), v = .agg #[.string nm, .slice sa l.length sc, .bool o1, .bool o2, .bool o3, .bool o4, .bool o5, .bool o6] ∧ nm.size ≤ maxLen ∧ StL (Rw w) l (.slice sa l.length sc) := by
 obtain ⟨cs, rfl, hcz⟩ := okWide_struct Tryz.underlying26 hv
 obtain ⟨fuel, hf0⟩ := h
 have hf1 : DataW.trod enc Tryz.prog w base sp held fuel 26 cs.toList = some (d, p) := by simpa [Value.cells] using hf0
 obtain ⟨ys, n, _, _, hcl, hyl, hf⟩ := DataW.trod_struct Tryz.underlying26 hf1
 have hC : Tryz.prog.cellsOf 26 = 8 := by kernel_rfl
 rw [hC] at hcl
 obtain ⟨cl⟩ := cs
 simp only [] at hcl hf
 match cl, hcl with
 | [c0, c1, c2, c3, c4, c5, c6, c7], _ =>
   have kk0 : Tryz.prog.cellsOf 22 = 1 := by kernel_rfl
   have kk1 : Tryz.prog.cellsOf 24 = 6 := by kernel_rfl
   have kk2 : Tryz.prog.cellsOf 9 = 1 := by kernel_rfl
   match ys, hyl with
   | [y0, y1, y2], _ =>
     have f0 : DataW.trod enc Tryz.prog w base sp held n 9 (([c0, c1, c2, c3, c4, c5, c6, c7].drop 0).take (Tryz.prog.cellsOf 9)) = some y0 := hf 0 _ rfl
     rw [kk2] at f0
     have f0 : DataW.trod enc Tryz.prog w base sp held n 9 [c0] = some y0 := f0
     have f1 : DataW.trod enc Tryz.prog w base sp held n 22 (([c0, c1, c2, c3, c4, c5, c6, c7].drop 1).take (Tryz.prog.cellsOf 22)) = some y1 := hf 1 _ rfl
     rw [kk0] at f1
     have f1 : DataW.trod enc Tryz.prog w base sp held n 22 [c1] = some y1 := f1
     have f2 : DataW.trod enc Tryz.prog w base sp held n 24 (([c0, c1, c2, c3, c4, c5, c6, c7].drop 2).take (Tryz.prog.cellsOf 24)) = some y2 := hf 2 _ rfl
     rw [kk1] at f2
     have f2 : DataW.trod enc Tryz.prog w base sp held n 24 [c2, c3, c4, c5, c6, c7] = some y2 := f2
     obtain ⟨nm, e0, _, w0⟩ := DataW.trod_string Tryz.underlying9 f0
     obtain ⟨l, hl⟩ := open_st n _ _ f1
     obtain ⟨zs, n2, _, _, _, hzl, hg⟩ := DataW.trod_struct Tryz.underlying24 f2
     have kb : Tryz.prog.cellsOf 4 = 1 := by kernel_rfl
     match zs, hzl with
     | [z0, z1, z2, z3, z4, z5], _ =>
       have g0 : DataW.trod enc Tryz.prog w base sp held n2 4 (([c2, c3, c4, c5, c6, c7].drop 0).take (Tryz.prog.cellsOf 4)) = some z0 := hg 0 _ rfl
       rw [kb] at g0
       obtain ⟨b0', y0', _⟩ := DataW.trod_bool Tryz.underlying4 g0
       have x0 : c2 = .bool b0' := by simpa using y0'
       have g1 : DataW.trod enc Tryz.prog w base sp held n2 4 (([c2, c3, c4, c5, c6, c7].drop 1).take (Tryz.prog.cellsOf 4)) = some z1 := hg 1 _ rfl
       rw [kb] at g1
       obtain ⟨b1', y1', _⟩ := DataW.trod_bool Tryz.underlying4 g1
       have x1 : c3 = .bool b1' := by simpa using y1'
       have g2 : DataW.trod enc Tryz.prog w base sp held n2 4 (([c2, c3, c4, c5, c6, c7].drop 2).take (Tryz.prog.cellsOf 4)) = some z2 := hg 2 _ rfl
       rw [kb] at g2
       obtain ⟨b2', y2', _⟩ := DataW.trod_bool Tryz.underlying4 g2
       have x2 : c4 = .bool b2' := by simpa using y2'
       have g3 : DataW.trod enc Tryz.prog w base sp held n2 4 (([c2, c3, c4, c5, c6, c7].drop 3).take (Tryz.prog.cellsOf 4)) = some z3 := hg 3 _ rfl
       rw [kb] at g3
       obtain ⟨b3', y3', _⟩ := DataW.trod_bool Tryz.underlying4 g3
       have x3 : c5 = .bool b3' := by simpa using y3'
       have g4 : DataW.trod enc Tryz.prog w base sp held n2 4 (([c2, c3, c4, c5, c6, c7].drop 4).take (Tryz.prog.cellsOf 4)) = some z4 := hg 4 _ rfl
       rw [kb] at g4
       obtain ⟨b4', y4', _⟩ := DataW.trod_bool Tryz.underlying4 g4
       have x4 : c6 = .bool b4' := by simpa using y4'
       have g5 : DataW.trod enc Tryz.prog w base sp held n2 4 (([c2, c3, c4, c5, c6, c7].drop 5).take (Tryz.prog.cellsOf 4)) = some z5 := hg 5 _ rfl
       rw [kb] at g5
       obtain ⟨b5', y5', _⟩ := DataW.trod_bool Tryz.underlying4 g5
       have x5 : c7 = .bool b5' := by simpa using y5'
       obtain ⟨sa, sc, rfl, _⟩ := hl.form
       simp only [List.cons.injEq, and_true] at e0
       subst e0
       exact ⟨nm, l, sa, sc, b0', b1', b2', b3', b4', b5', by rw [x0, x1, x2, x3, x4, x5], w0, hl⟩
end Go.Proofs.YtoojgjhfmmohbaaGreat
