/- syntax.Quote: the literal's bytes are the library's own rounds' (Lib.quoteFrom). -/
import Derived.Test.YtoghnefgflkpdaaDoorQShelf
import Derived.WalkKit
import Derived.BigCall
import Derived.Below
import Derived.Lib.Hide
import Derived.Deep.CutRange
import Derived.OwnWalk
import Derived.Laws.BytesArg
import Derived.Laws.IdiomCopy
import Derived.Deep.Upon
import Derived.Shelf.Strconv.Quote
import Derived.Lib.LazyBuf
import Derived.Deep.MidRow
import Derived.Laws.Cover4
namespace Go.Proofs.YtoghnefgflkpdaaDoor
open Go.RowKit
set_option linter.unusedVariables false
set_option linter.unusedSimpArgs false
set_option maxRecDepth 1000000

/-- the four places of the call's own array -/
def Tmp (bt : Nat) (w : World) : Prop := ∀ j, j < 4 → (w.cell? ⟨bt, j, none⟩).isSome = true ∧ w.frozen? ⟨bt, j, none⟩ = false
theorem Tmp.below {bt B : Nat} {w w' : World} (h : Tmp bt w) (hB : bt < B) (hb : Below B w w') : Tmp bt w' := fun j hj =>
  ⟨by rw [World.cell?_of_block (hb.block bt hB)]; exact (h j hj).1, by rw [World.frozen?_of_block (hb.block bt hB)]; exact (h j hj).2⟩
/-- the buffer of syntax.Quote, and its array: block bt -/
def QB (w : World) (bt : Nat) (v : Value) (l : List Int) (wr : World) : Prop :=
  ∃ W1, Below bt w W1 ∧ Tmp bt W1 ∧ Lib.OwnBuf (bt + 1) 5 v l.length (Lib.intCells l) W1 wr
theorem QB.below {w wr : World} {bt : Nat} {v : Value} {l : List Int} (h : QB w bt v l wr) : Below bt w wr := by
  obtain ⟨W1, h1, _, h2⟩ := h
  exact h1.trans (h2.2.1.mono (Nat.le_succ _))
theorem QB.buf_below {w wr w' : World} {bt : Nat} {v : Value} {l : List Int} (h : QB w bt v l wr) (hb : Below wr.heap.size wr w') : QB w bt v l w' := by
  obtain ⟨W1, h1, h2, h3⟩ := h
  exact ⟨W1, h1, h2, Go.Proofs.buf_below h3 hb⟩
theorem QB.tmp {w wr : World} {bt : Nat} {v : Value} {l : List Int} (h : QB w bt v l wr) : Tmp bt wr := by
  obtain ⟨W1, _, h1, h2⟩ := h
  exact h1.below (Nat.lt_succ_self _) h2.2.1
theorem grownBy_setCells (w : World) (bt o : Nat) (vs : List Value) : w.grownBy (w.setCells bt o vs) (some bt) := by
  have hb : Below bt w (w.setCells bt o vs) := Go.below_setCells (Nat.le_refl _) vs o w (Below.refl _ _)
  exact ⟨hb.os, hb.tape, hb.output, hb.size, fun k hk hne => World.heap_setCells_other w bt o vs hk (fun e => hne (by rw [e]))⟩
/-- a rune's bytes have come into the array -/
theorem ownBuf_rune {w wr : World} {bt : Nat} {v : Value} {n : Nat} {xs : List Value} {W1 : World} (h1 : Below bt w W1) (h3 : Lib.OwnBuf (bt + 1) 5 v n xs W1 wr) (h2 : Tmp bt W1) (cs : List Value) :
    Below bt w (wr.setCells bt 0 cs) ∧ Tmp bt (wr.setCells bt 0 cs) ∧ Lib.OwnBuf (bt + 1) 5 v n xs (wr.setCells bt 0 cs) (wr.setCells bt 0 cs) := by
  have hg := grownBy_setCells wr bt 0 cs
  have ht : Tmp bt wr := h2.below (Nat.lt_succ_self _) h3.2.1
  refine ⟨?_, fun j hj => ⟨World.isSome_setCells bt cs 0 wr _ (ht j hj).1, by rw [World.frozen?_setCells]; exact (ht j hj).2⟩, h3.1.kept hg ?_, Below.refl _ _, Nat.le_trans h3.2.2 hg.size⟩
  · exact Go.below_setCells (Nat.le_refl _) cs 0 wr (h1.trans (h3.2.1.mono (Nat.le_succ _)))
  · cases hv : v.ownBlock with
    | none => exact .inl rfl
    | some k => right; intro e; have := (h3.1.lt k hv).1; injection e with e; omega

theorem decodeRune_q (s : ByteArray) (w : World) (hT : Lib.Utf8Tabs (ren197.g 3) (ren197.g 4) w) :
    Calls Tryd.prog 9 #[.string s] w fun e w' => e = .returned (.tuple #[.int .i32 (Lib.decodeGo s).1, .int .i64 (Lib.decodeGo s).2]) ∧ Below w.heap.size w w' := Go.Proofs.Any.utf8_DecodeRuneInString lays197 s w hT
theorem isPrint_q (T : Lib.PrintTabs) (r : Int) (w : World) (h0 : 0 ≤ r) (h1 : r ≤ 2147483647) (hT : Lib.PrintTabsAt (ren339.g 20) (ren339.g 21) (ren339.g 22) (ren339.g 23) T w) :
    Calls Tryd.prog 13 #[.int .i32 r] w fun e w' => e = .returned (.bool (Lib.isPrintR T r)) ∧ ∃ q, w' = w.drewN q := Go.Proofs.Any.strconv_IsPrint lays339 T r w (by omega) h1 hT
theorem encodeRune_q (bt : Nat) (r : Int) (h0 : 0 ≤ r) (h1 : r ≤ 2147483647) (w : World) (ht : Tmp bt w) :
    Calls Tryd.prog 14 #[.slice (some ⟨bt, 0, none⟩) 4 4, .int .i32 r] w fun e w' => e = .returned (.int .i64 (Lib.runeCells r).length) ∧ w' = w.setCells bt 0 (Lib.runeCells r) := by
  have hl : (Lib.runeCells r).length ≤ 4 := by
    have := Lib.encodeRuneZ_length_le r
    simpa [Lib.runeCells] using this
  exact Go.Proofs.Any7.utf8_EncodeRune lays7_30 bt 0 4 4 r (by omega) (by omega) w hl (fun j hj => by have := (ht j (by omega)).1; rwa [Nat.zero_add]) (fun j hj => by have := (ht j (by omega)).2; rwa [Nat.zero_add])

theorem ownBuf_cast {B e : Nat} {v : Value} {n n' : Nat} {xs xs' : List Value} {W0 w : World} (h : Lib.OwnBuf B e v n xs W0 w) (hn : n' = n) (hx : xs' = xs) : Lib.OwnBuf B e v n' xs' W0 w := by subst hn; subst hx; exact h
theorem ascii_decode (rest : ByteArray) (h0 : 0 < rest.size) (hA : (rest[0]'h0).toNat < 128) : Utf8.decode rest 0 = ((rest[0]'h0).toNat, 1) := decode_ascii rest 0 h0 hA

theorem runeCells_eq (r : Int) : Lib.runeCells r = Lib.intCells (Lib.encodeRuneZ r) := rfl
theorem runeCells_le (r : Int) : (Lib.runeCells r).length ≤ 4 := by
  have := Lib.encodeRuneZ_length_le r
  simpa [Lib.runeCells] using this
/-- one of the call's digits: what Go reckons, as a number below 16 -/
theorem digit_q (k : Nat) (hk : k < 2147483648) (d : Nat) : bits .and .i32 ((k : Int) / (d : Int)) 15 = ((k / d % 16 : Nat) : Int) := by
  have := Lib.and15_shift (k : Int) k rfl hk d
  simpa using this
theorem high_one (s : ByteArray) (h : 0 < s.size) (ha : 128 ≤ (s[0]'h).toNat) (h1 : (Utf8.decode s 0).2 = 1) : (Utf8.decode s 0).1 = 65533 := by
  have hn : ¬ (s[0]'h).toNat < 128 := by omega
  revert h1
  simp only [Utf8.decode, get_at s 0 h, hn, if_false]
  repeat' split
  all_goals simp_all [Utf8.runeError]
/-- what EncodeRune leaves -/
theorem encodeRune_qb {w wr : World} {bt : Nat} {v : Value} {n : Nat} {xs : List Value} {W1 : World} (h1 : Below bt w W1) (h3 : Lib.OwnBuf (bt + 1) 5 v n xs W1 wr) (h2 : Tmp bt W1) (r : Int) (hr0 : 0 ≤ r) (hr1 : r ≤ 2147483647) (m : Nat) (hm : m = (Lib.runeCells r).length) :
    Calls Tryd.prog 14 #[.slice (some ⟨bt, 0, none⟩) 4 4, .int .i32 r] wr fun e w' => e = .returned (.int .i64 m) ∧ Below bt w w' ∧ Tmp bt w' ∧ Lib.OwnBuf (bt + 1) 5 v n xs w' w' ∧ ∀ j u, (Lib.runeCells r)[j]? = some u → w'.cell? ((⟨bt, 0, none⟩ : Addr).add j) = some u := by
  have ht : Tmp bt wr := h2.below (Nat.lt_succ_self _) h3.2.1
  have hl : (Lib.runeCells r).length ≤ 4 := by
    have := Lib.encodeRuneZ_length_le r
    simpa [Lib.runeCells] using this
  rw [hm]
  refine (encodeRune_q bt r hr0 hr1 wr ht).mono ?_
  rintro e w' ⟨rfl, rfl⟩
  obtain ⟨a, b, c⟩ := ownBuf_rune h1 h3 h2 (Lib.runeCells r)
  refine ⟨rfl, a, b, c, fun j u hj => ?_⟩
  obtain ⟨hjl, rfl⟩ := List.getElem?_eq_some_iff.1 hj
  have := World.cell?_setCells_in bt (Lib.runeCells r) 0 wr (fun i hi => by have := (ht i (by omega)).1; rwa [Nat.zero_add]) j hjl
  rw [Nat.zero_add] at this
  rw [show (⟨bt, 0, none⟩ : Addr).add j = ⟨bt, j, none⟩ from by unfold Addr.add; split <;> simp_all]
  exact this

/-- what a round leaves -/
theorem q_close {T : Lib.PrintTabs} {rest s : ByteArray} {acc E Z : List Int} {f K : Nat} (h0 : 0 < rest.size) (hf : rest.size ≤ f) (hq : acc ++ Lib.quoteFrom T f rest = Z) (hl : acc.length + 10 * rest.size ≤ 10 * s.size)
    (hK : K = (Utf8.decode rest 0).2) (hst : Lib.quoteStep T rest = E) :
    (rest.extract K rest.size).size ≤ f - 1 ∧ Hid ((acc ++ E) ++ Lib.quoteFrom T (f - 1) (rest.extract K rest.size) = Z) ∧ (acc ++ E).length + 10 * (rest.extract K rest.size).size ≤ 10 * s.size ∧ (rest.extract K rest.size).size < rest.size := by
  have hsz : (rest.extract K rest.size).size = rest.size - K := Lib.size_rest rest K
  have hK1 : 1 ≤ K := by rw [hK]; exact Lib.width_pos _ _
  have hK2 : K ≤ rest.size := by rw [hK]; exact Lib.width_le _ h0
  have hE := Lib.quoteStep_length_le T rest
  rw [hst] at hE
  refine ⟨by omega, ?_, by rw [List.length_append]; omega, by omega⟩
  show acc ++ E ++ Lib.quoteFrom T (f - 1) (rest.extract K rest.size) = Z
  rw [← hq, Lib.quoteFrom_step T f rest h0 hf, hst, ← hK, List.append_assoc]

end Go.Proofs.YtoghnefgflkpdaaDoor
