/- laws.listOf: at most twelve elements, cleaned. -/
import Derived.Test.YtggpaejlmfppoaaGreatClean
import Derived.Test.YtggpaejlmfppoaaGreatCelRel
import Derived.Test.YtggpaejlmfppoaaGreatInfoVal
namespace Go.Proofs.YtggpaejlmfppoaaGreat
open Go.RowKit Dig
set_option linter.unusedVariables false
set_option linter.unusedSimpArgs false
set_option maxRecDepth 100000

/-- an element that came in -/
def RawE (w : World) (b o : Nat) : Prop :=
  ∃ (kd : Int) (nb : Bool) (ma : Option Addr) (ml mc : Nat) (ub : Int) (tx : ByteArray) (ka : Option Addr) (kn kc : Nat) (ms : List Nat),
    (w.cell? ⟨b, o, none⟩ = some (.int .i64 kd) ∧ w.cell? ⟨b, o + 1, none⟩ = some (.bool nb) ∧ w.cell? ⟨b, o + 2, none⟩ = some (.slice ma ml mc) ∧ w.cell? ⟨b, o + 3, none⟩ = some (.int .u64 ub) ∧ w.cell? ⟨b, o + 4, none⟩ = some (.string tx) ∧ w.cell? ⟨b, o + 5, none⟩ = some (.slice ka kn kc)) ∧
    -9223372036854775808 ≤ kd ∧ kd ≤ 9223372036854775807 ∧ 0 ≤ ub ∧ (∀ x ∈ ms, x < 256) ∧ Sl w w.heap.size (.slice ma ml mc) (ms.map bv)
theorem RawE.below {w w' : World} {b o : Nat} (h : RawE w b o) (hb : Below w.heap.size w w') : RawE w' b o := by
  obtain ⟨kd, nb, ma, ml, mc, ub, tx, ka, kn, kc, ms, ⟨c0, c1, c2, c3, c4, c5⟩, h1, h2, h3, h4, h5⟩ := h
  have lb := lt_of_cell c0
  exact ⟨kd, nb, ma, ml, mc, ub, tx, ka, kn, kc, ms, ⟨(hb.cell (p := ⟨b, o, none⟩) lb).trans c0, (hb.cell (p := ⟨b, o + 1, none⟩) lb).trans c1, (hb.cell (p := ⟨b, o + 2, none⟩) lb).trans c2, (hb.cell (p := ⟨b, o + 3, none⟩) lb).trans c3, (hb.cell (p := ⟨b, o + 4, none⟩) lb).trans c4, (hb.cell (p := ⟨b, o + 5, none⟩) lb).trans c5⟩, h1, h2, h3, h4, (h5.below hb).more hb.size⟩
/-- a slice that came in -/
def RawL (w : World) (la : Option Addr) (ln : Nat) : Prop := ln = 0 ∨ ∃ b o, la = some ⟨b, o, none⟩ ∧ ∀ j, j < ln → RawE w b (o + j * 6)
def LiRel (w : World) (N : Nat) (v i : Value) (wr : World) : Prop :=
  ∃ (k : Nat) (xs : List Cel) (ls : List Value), k ≤ N ∧ i = .int .i64 (k : Int) ∧ Hid (xs.length = k) ∧ Hid (∀ x ∈ xs, x.ok) ∧ Hid (wr.ownsRow w.heap.size 27 6 v k ls) ∧ Hid (LOc wr v.ownBlock none xs ls) ∧ Hid (Below w.heap.size w wr)
theorem ce6_one (x : Cel) (n : Bool) (a : Option Addr) (l c : Nat) (s : ByteArray) : ∀ u ∈ ce6 x n a l c s, u.oneCell' = true := by
  intro u hu
  simp only [ce6, List.mem_cons, List.mem_nil_iff, or_false] at hu
  rcases hu with rfl | rfl | rfl | rfl | rfl | rfl <;> rfl
theorem li_step {w wr w2 w4 : World} {N k : Nat} {xs : List Cel} {ls : List Value} {v v4 : Value} {x : Cel} {n : Bool} {a : Option Addr} {l c : Nat} {s : ByteArray} (hk : k < N) (hl : xs.length = k) (hok : ∀ x ∈ xs, x.ok) (hr : wr.ownsRow w.heap.size 27 6 v k ls) (hL : LOc wr v.ownBlock none xs ls) (hb : Below w.heap.size w wr)
    (hx : x.ok) (hva : VaC w2 w2.heap.size (.agg #[.int .i64 x.kind, .bool n, .slice a l c, .int .u64 x.bits, .string s, .slice none 0 0]) x) (hb2 : Below wr.heap.size wr w2) (hfr : ∀ y, a = some y → wr.heap.size ≤ y.block)
    (h4 : w4.ownsRow w.heap.size 27 6 v4 (k + 1) (ls ++ ce6 x n a l c s)) (hg : (w2.alloc (.cells (ce6 x n a l c s).toArray 27)).grownBy w4 v.ownBlock) (ho : v4.ownBlock = v.ownBlock ∨ v4.ownBlock = some (w2.alloc (.cells (ce6 x n a l c s).toArray 27)).heap.size) :
    LiRel w N v4 (.int .i64 ((k : Int) + 1)) w4 := by
  have ha : Below w2.heap.size w2 (w2.alloc (.cells (ce6 x n a l c s).toArray 27)) := (Below.refl _ _).alloc (Nat.le_refl _) _
  generalize w2.alloc (.cells (ce6 x n a l c s).toArray 27) = W3 at *
  have hb3 : Below wr.heap.size wr W3 := hb2.trans (ha.mono hb2.size)
  have hup : ∀ y, a = some y → l ≠ 0 → y.block < w2.heap.size := by
    intro y hy hl0
    cases x with
    | int i =>
      obtain ⟨mag, e, ms, hm, a', c', hsl, _, hrd⟩ := hva
      simp only [Cel.bits, Value.agg.injEq, Array.mk.injEq, List.cons.injEq, Value.bool.injEq, Value.string.injEq, true_and, and_true] at e
      obtain ⟨_, _, rfl, _⟩ := e
      simp only [Value.slice.injEq] at hsl
      obtain ⟨rfl, rfl, rfl⟩ := hsl
      obtain ⟨b, o, rfl, hb, _⟩ := hrd (by intro e; rw [e] at hl0; simp at hl0)
      injection hy with hy
      subst hy
      exact hb
    | non => simp [VaC] at hva; obtain ⟨_, _, ⟨_, h0, _⟩, _⟩ := hva; exact absurd h0 hl0
    | boo b => simp [VaC] at hva; obtain ⟨_, _, ⟨_, h0, _⟩, _⟩ := hva; exact absurd h0 hl0
    | flt u => simp [VaC] at hva; obtain ⟨_, _, ⟨_, h0, _⟩, _⟩ := hva; exact absurd h0 hl0
    | str t => simp [VaC] at hva; obtain ⟨_, _, ⟨_, h0, _⟩, _⟩ := hva; exact absurd h0 hl0
    | byt t => simp [VaC] at hva; obtain ⟨_, _, ⟨_, h0, _⟩, _⟩ := hva; exact absurd h0 hl0
  have hcl : Clc W3 v.ownBlock none x n a l c s := ⟨(hva.below ha).more ha.size, fun y hy hl0 => ⟨Nat.lt_of_lt_of_le (hup y hy hl0) ha.size, fun e => by
    have h1 := hfr y hy
    have h2 := (hr.lt _ e.symm).2
    omega, by simp⟩⟩
  have hS : SameC v.ownBlock none W3 w4 := ⟨hg.size, fun k hk h1 _ => hg.block k hk h1⟩
  have hLO := (hL.same (SameC.of_below hb3)).add hcl hS (p1 := v4.ownBlock) (p2 := none) (by
    rcases ho with ho | ho
    · exact .inl ho
    · right; intro k hk; rw [ho] at hk; injection hk with hk; omega) (.inl rfl)
  have hbw := hb.trans (hb3.mono hb.size)
  refine ⟨k + 1, xs ++ [x], ls ++ ce6 x n a l c s, hk, by simp, Lib.hid (by simp [hl]), Lib.hid ?_, Lib.hid h4, Lib.hid hLO, Lib.hid (hbw.trans (Up.below (r := v.ownBlock) hg hbw.size (fun k hk => (hr.lt k hk).1)))⟩
  intro y hy
  rcases List.mem_append.1 hy with h | h
  · exact hok y h
  · simp at h; subst h; exact hx
set_option maxHeartbeats 3200000 in
theorem listOf_any (la : Option Addr) (ln lc : Nat) (w : World) (h : RawL w la ln) (hln : ln ≤ 2147483647) :
    Calls Tryz.prog 5 #[.slice la ln lc] w fun e w' => ∃ (xs : List Cel) (a : Option Addr) (c : Nat), xs.length = min ln 12 ∧ (∀ x ∈ xs, x.ok) ∧ e = .returned (.slice a xs.length c) ∧ CeL w' w'.heap.size (.slice a xs.length c) xs ∧ Below w.heap.size w w' := by
  obtain ⟨iV, hiV, hzV, hsV, hbV⟩ := info_parts info26
  obtain ⟨N, hN⟩ : ∃ N, N = min ln 12 := ⟨_, rfl⟩
  rw [← hN]
  have HR := Lib.hid h
  have HN := Lib.hid hN
  have START : Hid (LiRel w N (.slice none 0 0) (.int .i64 0) w) := Lib.hid ⟨0, [], [], Nat.zero_le _, rfl, Lib.hid rfl, Lib.hid (by simp), Lib.hid (World.ownsRow_nil w _ _ _), Lib.hid (LOc.nil _ _ _), Lib.hid (Below.refl _ _)⟩
  clear h hN
  go_enter Tryz.func5, Tryz.ntmps5
  go_wp2_with fail
  go_loopw [3, 4] (LiRel w N) (fun _ i _ => N - (intOf i).toNat)
  case atStart => exact START.out
  case round =>
    obtain ⟨k, xs, ls, hk, rfl, HL, HO, HW, HLO, HB⟩ := hrel
    clear START
    rcases Nat.lt_or_ge k N with hlt | hge
    · have hk1 : k < ln := by have := HN.out; omega
      have hk2 : k < 12 := by have := HN.out; omega
      obtain ⟨b, o, rfl, hE⟩ : ∃ b o, la = some ⟨b, o, none⟩ ∧ RawE wr b (o + k * 6) := by
        rcases HR.out with h0 | ⟨b, o, hla, hj⟩
        · omega
        · exact ⟨b, o, hla, (hj k hk1).below HB.out⟩
      obtain ⟨kd, nb, ma, ml, mc, ub, tx, ka, kn, kc, ms, ⟨c0, c1, c2, c3, c4, c5⟩, h1, h2, h3, h4, h5⟩ := hE
      have C := Lib.hid (clean_any kd nb ma ml mc ub tx ka kn kc ms wr h1 h2 h3 h4 h5)
      have hi1 : (0 : Int) ≤ (k : Int) := by omega
      have hi2 : (k : Int) < (ln : Int) := by omega
      have lb := lt_of_cell c0
      clear h1 h2 h3 h4 h5
      go_wp2_with fail
      refine C.out.mono ?_
      rintro e w2 ⟨x, n, a, l, c, t, hx, rfl, hva, hb2, hfr⟩
      have STEP : Hid (∀ v4 w4, w4.ownsRow w.heap.size 27 6 v4 (k + 1) (ls ++ ce6 x n a l c t) → (w2.alloc (.cells (ce6 x n a l c t).toArray 27)).grownBy w4 u3.ownBlock → (v4.ownBlock = u3.ownBlock ∨ v4.ownBlock = some (w2.alloc (.cells (ce6 x n a l c t).toArray 27)).heap.size) → LiRel w N v4 (.int .i64 ((k : Int) + 1)) w4) := Lib.hid (fun v4 w4 g1 g2 g3 => li_step hlt HL.out HO.out HW.out HLO.out HB.out hx hva hb2 hfr g1 g2 g3)
      have b3 : Below wr.heap.size wr (w2.alloc (.cells (ce6 x n a l c t).toArray 27)) := hb2.trans (((Below.refl _ _).alloc (Nat.le_refl _) _).mono hb2.size)
      have OW : Hid ((w2.alloc (.cells (ce6 x n a l c t).toArray 27)).ownsRow w.heap.size 27 6 u3 k ls) := Lib.hid (HW.out.kept (row := none) ⟨b3.os, b3.tape, b3.output, b3.size, fun k hk _ => b3.block k hk⟩ (by cases u3.ownBlock <;> simp))
      have NW : Hid (∀ j u, (ce6 x n a l c t)[j]? = some u → (w2.alloc (.cells (ce6 x n a l c t).toArray 27)).cell? ((⟨w2.heap.size, 0, none⟩ : Addr).add j) = some u) := Lib.hid (fun j u hj => by
        obtain ⟨hjl, rfl⟩ := List.getElem?_eq_some_iff.1 hj
        rw [add_zero0, (Blk.new w2 27 (ce6 x n a l c t)).cell j hjl, List.getD_eq_getElem?_getD, List.getElem?_eq_getElem hjl]; rfl)
      have BS : Hid (w.heap.size ≤ (w2.alloc (.cells (ce6 x n a l c t).toArray 27)).heap.size) := Lib.hid (Nat.le_trans HB.out.size b3.size)
      have ON := Lib.hid (ce6_one x n a l c t)
      clear hva hb2 hfr b3 C hx
      unfold ce6 at STEP OW NW BS ON
      go_wp2_with (at_builtin; refine wpList_append_own_at _ rfl (.tmp 15) (.tmp 21) 22 rfl w.heap.size 27 iV _ 6 88 Tryz.underlying22 hiV hzV hsV hbV rfl (by decide) u3 k ls rfl OW.out ⟨w2.heap.size, 0, none⟩ 1 1 _ rfl rfl NW.out ON.out (by unfold maxLen; omega) (by omega) BS.out ?_; intro v4 w4 g1 g2 _ g3; have FS := Lib.hid (STEP.out v4 w4 g1 g2 g3); clear g1 g2 g3)
      go_roundw
      case rel => first | exact FS.out | ((repeat apply Exists.intro); exact ⟨FS.out, rfl⟩)
      case measure => simp [intOf]; omega
    · obtain rfl : k = N := by omega
      obtain ⟨a, c, rfl, hce⟩ := LOc.val (xs := xs) HLO.out (by rw [HL.out]; exact HW.out)
      have HC := Lib.hid hce
      clear hce
      have hxl := HL.out
      by_cases hkl : k < ln
      · have hk12 : k = 12 := by have := HN.out; omega
        subst hk12
        go_wp2_with fail
        go_ret
        exact ⟨xs, a, c, HL.out, HO.out, by rw [HL.out]; rfl, HC.out, HB.out⟩
      · go_wp2_with fail
        go_ret
        exact ⟨xs, a, c, HL.out, HO.out, by rw [HL.out]; rfl, HC.out, HB.out⟩
end Go.Proofs.YtggpaejlmfppoaaGreat
