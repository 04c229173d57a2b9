/- spec.span at two scalars. -/
import Derived.Test.YtoggalnjjhcmkaaGreatFText
import Derived.Test.YtoggalnjjhcmkaaGreatSteps
import Derived.Lib.MinMax
namespace Go.Proofs.YtoggalnjjhcmkaaGreat
open Go.RowKit Dig
set_option linter.unusedVariables false
set_option linter.unusedSimpArgs false
set_option maxRecDepth 100000

/-- the three arguments of a search, as Vals in memory -/
def SArgs (w : World) (g : Nat) (p : ByteArray) (x y : Scal) (n1 n2 : Bool) (a1 a2 : Option Addr) (l1 c1 l2 c2 : Nat) (t1 t2 : ByteArray) : Prop :=
  Blk w g 26 ([.int .i64 4, .bool false, .slice none 0 0, .int .u64 0, .string p, .slice none 0 0] ++ (sc6 x n1 a1 l1 c1 t1 ++ sc6 y n2 a2 l2 c2 t2)) ∧ VaP w x n1 a1 l1 c1 t1 ∧ VaP w y n2 a2 l2 c2 t2
theorem SArgs.below {w w' : World} {g : Nat} {p : ByteArray} {x y : Scal} {n1 n2 : Bool} {a1 a2 : Option Addr} {l1 c1 l2 c2 : Nat} {t1 t2 : ByteArray} (h : SArgs w g p x y n1 n2 a1 a2 l1 c1 l2 c2 t1 t2) (hb : Below w.heap.size w w') : SArgs w' g p x y n1 n2 a1 a2 l1 c1 l2 c2 t1 t2 :=
  ⟨h.1.below hb h.1.lt, h.2.1.below hb, h.2.2.below hb⟩
theorem SArgs.c2 {w : World} {g : Nat} {p : ByteArray} {x y : Scal} {n1 n2 : Bool} {a1 a2 : Option Addr} {l1 c1 l2 c2 : Nat} {t1 t2 : ByteArray} (h : SArgs w g p x y n1 n2 a1 a2 l1 c1 l2 c2 t1 t2) :
    w.cell? ⟨g, 6, none⟩ = some (.int .i64 x.kind) ∧ w.cell? ⟨g, 7, none⟩ = some (.bool n1) ∧ w.cell? ⟨g, 8, none⟩ = some (.slice a1 l1 c1) ∧ w.cell? ⟨g, 9, none⟩ = some (.int .u64 0) ∧ w.cell? ⟨g, 10, none⟩ = some (.string t1) ∧ w.cell? ⟨g, 11, none⟩ = some (.slice none 0 0) :=
  ⟨h.1.cell 6 (by simp [sc6]), h.1.cell 7 (by simp [sc6]), h.1.cell 8 (by simp [sc6]), h.1.cell 9 (by simp [sc6]), h.1.cell 10 (by simp [sc6]), h.1.cell 11 (by simp [sc6])⟩
theorem SArgs.c3 {w : World} {g : Nat} {p : ByteArray} {x y : Scal} {n1 n2 : Bool} {a1 a2 : Option Addr} {l1 c1 l2 c2 : Nat} {t1 t2 : ByteArray} (h : SArgs w g p x y n1 n2 a1 a2 l1 c1 l2 c2 t1 t2) :
    w.cell? ⟨g, 12, none⟩ = some (.int .i64 y.kind) ∧ w.cell? ⟨g, 13, none⟩ = some (.bool n2) ∧ w.cell? ⟨g, 14, none⟩ = some (.slice a2 l2 c2) ∧ w.cell? ⟨g, 15, none⟩ = some (.int .u64 0) ∧ w.cell? ⟨g, 16, none⟩ = some (.string t2) ∧ w.cell? ⟨g, 17, none⟩ = some (.slice none 0 0) :=
  ⟨h.1.cell 12 (by simp [sc6]), h.1.cell 13 (by simp [sc6]), h.1.cell 14 (by simp [sc6]), h.1.cell 15 (by simp [sc6]), h.1.cell 16 (by simp [sc6]), h.1.cell 17 (by simp [sc6])⟩
theorem SArgs.c1 {w : World} {g : Nat} {p : ByteArray} {x y : Scal} {n1 n2 : Bool} {a1 a2 : Option Addr} {l1 c1 l2 c2 : Nat} {t1 t2 : ByteArray} (h : SArgs w g p x y n1 n2 a1 a2 l1 c1 l2 c2 t1 t2) :
    w.cell? ⟨g, 0, none⟩ = some (.int .i64 4) ∧ w.cell? ⟨g, 4, none⟩ = some (.string p) := ⟨h.1.cell 0 (by simp), h.1.cell 4 (by simp)⟩
/-- the number of a scalar, as the reference reads it -/
def nI : Scal → Int
  | .int i => i
  | _ => 0
theorem numSc_any (x : Scal) (n : Bool) (a : Option Addr) (l c : Nat) (t : ByteArray) (w : World) (h : VaP w x n a l c t) (hx : x.ok) :
    Calls Tryz.prog 25 #[.agg #[.int .i64 x.kind, .bool n, .slice a l c, .int .u64 0, .string t, .slice none 0 0]] w (SpPost (nI x) w) := by
  cases x with
  | int i =>
    obtain ⟨mag, e, ms, hm, hsl⟩ : Va w w.heap.size (.agg #[.int .i64 2, .bool n, .slice a l c, .int .u64 0, .string t, .slice none 0 0]) i := h
    simp only [Value.agg.injEq, Array.mk.injEq, List.cons.injEq, Value.bool.injEq, Value.string.injEq, true_and, and_true] at e
    obtain ⟨hn, hmag, rfl⟩ := e
    subst hmag
    have hl := hm.length_le hx
    have hv : rawI n ms = i := by
      unfold rawI
      rw [Dig.Bytes.bval hm, hn]
      by_cases h0 : i < 0 <;> simp [h0] <;> omega
    have := numRaw_any 2 n (.slice a l c) 0 ByteArray.empty none 0 0 ms w hm.lt (by omega) hsl
    rw [hv] at this
    exact this
  | non =>
    have e : Value.agg #[.int .i64 0, .bool n, .slice a l c, .int .u64 0, .string t, .slice none 0 0] = .agg #[.int .i64 0, .bool false, .slice none 0 0, .int .u64 0, .string ByteArray.empty, .slice none 0 0] := h
    simp only [Value.agg.injEq, Array.mk.injEq, List.cons.injEq, Value.bool.injEq, Value.slice.injEq, Value.string.injEq, true_and, and_true] at e
    obtain ⟨rfl, ⟨rfl, rfl, rfl⟩, rfl⟩ := e
    exact numRaw_any 0 false (.slice none 0 0) 0 _ none 0 0 [] w (by simp) (by simp) (Sl.nil _ _)
  | str s =>
    have e : Value.agg #[.int .i64 4, .bool n, .slice a l c, .int .u64 0, .string t, .slice none 0 0] = .agg #[.int .i64 4, .bool false, .slice none 0 0, .int .u64 0, .string s, .slice none 0 0] := h
    simp only [Value.agg.injEq, Array.mk.injEq, List.cons.injEq, Value.bool.injEq, Value.slice.injEq, Value.string.injEq, true_and, and_true] at e
    obtain ⟨rfl, ⟨rfl, rfl, rfl⟩, rfl⟩ := e
    exact numRaw_any 4 false (.slice none 0 0) 0 _ none 0 0 [] w (by simp) (by simp) (Sl.nil _ _)
theorem nI_bd {x : Scal} (h : Pl x) : -2147483648 ≤ nI x ∧ nI x ≤ 2147483647 := by
  cases x with
  | int i => exact h
  | non => exact ⟨by decide, by decide⟩
  | str s => exact ⟨by show (-2147483648 : Int) ≤ 0; omega, by show (0 : Int) ≤ 2147483647; omega⟩
theorem Pl.ok {x : Scal} (h : Pl x) : x.ok := by
  cases x with
  | non => trivial
  | int i => exact lt_lim (j := 8) (by have e : (256 : Nat) ^ 8 = 18446744073709551616 := by decide
                                       obtain ⟨h1, h2⟩ := h; omega) (by omega)
  | str s =>
    have h' : s.size ≤ 4096 := h
    show s.size ≤ maxLen
    unfold maxLen; omega
/-- Num, and behind it Int64 -/
theorem numInt_any (x : Scal) (n : Bool) (a : Option Addr) (l c : Nat) (t : ByteArray) (w : World) (h : VaP w x n a l c t) (hx : Pl x) :
    Calls Tryz.prog 25 #[.agg #[.int .i64 x.kind, .bool n, .slice a l c, .int .u64 0, .string t, .slice none 0 0]] w fun e w' => ∃ q p k d, e = .returned (.agg #[.bool q, .slice p k d]) ∧ Below w.heap.size w w' ∧
      Calls Tryz.prog 26 #[.agg #[.bool q, .slice p k d]] w' fun e w'' => e = .returned (.tuple #[.int .i64 (nI x), .bool true]) ∧ Below w.heap.size w w'' := by
  obtain ⟨hl, hu⟩ := nI_bd hx
  refine (numSc_any x n a l c t w h hx.ok).mono ?_
  rintro e w' ⟨v, rfl, hs, hb⟩
  obtain ⟨q, p, k, d, rfl⟩ := hs.form
  refine ⟨q, p, k, d, rfl, hb, (specInt64_anyX (nI x) _ w' hs (fitX_small _ (by omega) (by omega))).mono ?_⟩
  rintro e w'' ⟨rfl, hb2⟩
  have hf : fits64 (nI x) = true := by unfold fits64; simp; omega
  refine ⟨by rw [hf]; rfl, hb.trans (hb2.mono hb.size)⟩
set_option maxHeartbeats 6400000 in
theorem span_any (n g : Nat) (p : ByteArray) (x y : Scal) (n1 n2 : Bool) (a1 a2 : Option Addr) (l1 c1 l2 c2 : Nat) (t1 t2 : ByteArray) (w : World) (hn : n ≤ 100) (hA : SArgs w g p x y n1 n2 a1 a2 l1 c1 l2 c2 t1 t2) (px : Pl x) (py : Pl y) :
    Calls Tryz.prog 43 #[.int .i64 (n : Int), .slice (some ⟨g, 6, none⟩) 2 2] w fun e w' => Below w.heap.size w w' ∧ ((∃ a b : Nat, edges n x y = some (a, b) ∧ e = .returned (.tuple #[.int .i64 (a : Int), .int .i64 ((max a b : Nat) : Int), .bool true])) ∨ (edges n x y = none ∧ e = .returned (.tuple #[.int .i64 0, .int .i64 0, .bool false]))) := by
  obtain ⟨W0, hW0⟩ : ∃ W0, W0 = w.alloc (.cells #[.int .i64 0, .int .i64 (n : Int)] 128) := ⟨_, rfl⟩
  have b0 : Below w.heap.size w W0 := by rw [hW0]; exact (Below.refl _ _).alloc (Nat.le_refl _) _
  have k0 : Blk W0 w.heap.size 128 [.int .i64 0, .int .i64 (n : Int)] := by rw [hW0]; exact Blk.new w _ [.int .i64 0, .int .i64 (n : Int)]
  have HA : Hid (∀ W, Below w.heap.size w W → SArgs W g p x y n1 n2 a1 a2 l1 c1 l2 c2 t1 t2) := Lib.hid (fun W h => hA.below h)
  have HK0 := Lib.hid k0; have HB0 := Lib.hid b0
  have HP := Lib.hid (And.intro px py)
  clear hA px py k0 b0
  go_enter Tryz.func43, Tryz.ntmps43
  go_wp2_with fail
  rw [← hW0]
  clear hW0
  go_loopw [8] (fun i wr => (Hid (Below w.heap.size w wr)) ∧ ((i = .int .i64 0 ∧ Hid (Blk wr w.heap.size 128 [.int .i64 0, .int .i64 (n : Int)])) ∨ (i = .int .i64 1 ∧ ∃ ra, Hid (rawEdge n 0 x = some ra) ∧ Hid (Blk wr w.heap.size 128 [.int .i64 ((clampE n ra : Nat) : Int), .int .i64 (n : Int)])) ∨ (i = .int .i64 2 ∧ ∃ ra rb, Hid (rawEdge n 0 x = some ra) ∧ Hid (rawEdge n n y = some rb) ∧ Hid (Blk wr w.heap.size 128 [.int .i64 ((clampE n ra : Nat) : Int), .int .i64 ((clampE n rb : Nat) : Int)])))) (fun i _ => 2 - (intOf i).toNat)
  case atStart => exact ⟨HB0, .inl ⟨rfl, HK0⟩⟩
  case round =>
    obtain ⟨HB, ⟨rfl, HK⟩ | ⟨rfl, ra, HR, HK⟩ | ⟨rfl, ra, rb, HR, HS, HK⟩⟩ := hrel
    · cases x with
      | non =>
        obtain ⟨q0', q1, q2, q3, q4, q5⟩ := (HA.out _ HB.out).c2
        have q0 : _ = some (Value.int .i64 0) := q0'
        clear q0'
        have HRN : Hid (rawEdge n 0 .non = some 0) := Lib.hid rfl
        have HN : Hid (Blk wr w.heap.size 128 [.int .i64 (((clampE n 0 : Nat) : Int)), .int .i64 (n : Int)]) := Lib.hid (by rw [show ((clampE n 0 : Nat) : Int) = 0 by unfold clampE; omega]; exact HK.out)
        clear HA HP
        go_wp2_with fail
        first
        | exact ⟨⟨HB, .inr (.inl ⟨rfl, 0, HRN, HN⟩)⟩, by simp [intOf]⟩
        | (go_roundw
           case rel => exact ⟨HB, .inr (.inl ⟨rfl, 0, HRN, HN⟩)⟩
           case measure => simp [intOf])
      | str s =>
        obtain ⟨q0', q1, q2, q3, q4, q5⟩ := (HA.out _ HB.out).c2
        have q0 : _ = some (Value.int .i64 4) := q0'
        clear q0'
        have NC : Hid (Calls Tryz.prog 25 #[.agg #[.int .i64 4, .bool n1, .slice a1 l1 c1, .int .u64 0, .string t1, .slice none 0 0]] wr _) := Lib.hid (numInt_any (.str s) n1 a1 l1 c1 t1 wr (HA.out _ HB.out).2.1 HP.out.1)
        have HE : Hid (edges n (.str s) y = none) := Lib.hid (by unfold edges; rfl)
        clear HP
        go_wp2_with fail
        refine NC.out.mono ?_
        rintro e w1 ⟨q, p', k', d', rfl, hb1, hc⟩
        have IC : Hid (Calls Tryz.prog 26 #[.agg #[.bool q, .slice p' k' d']] w1 fun e w'' => e = .returned (.tuple #[.int .i64 0, .bool true]) ∧ Below wr.heap.size wr w'') := Lib.hid hc
        clear hb1 hc NC
        go_wp2_with fail
        refine IC.out.mono ?_
        rintro e w2 ⟨rfl, hb2⟩
        have HB2 := Lib.hid (HB.out.trans (hb2.mono HB.out.size))
        clear hb2 IC q0 q1 q2 q3 q4 q5
        obtain ⟨q0', q1, q2, q3, q4, q5⟩ := (HA.out _ HB2.out).c2
        have q0 : _ = some (Value.int .i64 4) := q0'
        clear q0'
        clear HA
        go_wp2_with fail
        exact bodyPost_ret (v := .tuple #[.int .i64 0, .int .i64 0, .bool false]) (by simp [results, Tryz.results43, go_sem]) rfl ⟨HB2.out, .inr ⟨HE.out, rfl⟩⟩
      | int i =>
        obtain ⟨q0', q1, q2, q3, q4, q5⟩ := (HA.out _ HB.out).c2
        have q0 : _ = some (Value.int .i64 2) := q0'
        clear q0'
        have NC : Hid (Calls Tryz.prog 25 #[.agg #[.int .i64 2, .bool n1, .slice a1 l1 c1, .int .u64 0, .string t1, .slice none 0 0]] wr _) := Lib.hid (numInt_any (.int i) n1 a1 l1 c1 t1 wr (HA.out _ HB.out).2.1 HP.out.1)
        obtain ⟨i1, i2⟩ : -2147483648 ≤ i ∧ i ≤ 2147483647 := HP.out.1
        clear HP
        go_wp2_with fail
        refine NC.out.mono ?_
        rintro e w1 ⟨q, p', k', d', rfl, hb1, hc⟩
        have IC : Hid (Calls Tryz.prog 26 #[.agg #[.bool q, .slice p' k' d']] w1 fun e w'' => e = .returned (.tuple #[.int .i64 i, .bool true]) ∧ Below wr.heap.size wr w'') := Lib.hid hc
        clear hb1 hc NC
        go_wp2_with fail
        refine IC.out.mono ?_
        rintro e w2 ⟨rfl, hb2⟩
        have HB2 := Lib.hid (HB.out.trans (hb2.mono HB.out.size))
        have hk2 := HK.out.below hb2 HK.out.lt
        clear hb2 IC q0 q1 q2 q3 q4 q5 HK
        have v0 := hk2.cell 0 (by simp)
        have v1 := hk2.cell 1 (by simp)
        have f0 := hk2.free 0
        have l0 := hk2.lt
        have HKS : Hid (∀ v : Int, Blk (w2.setCell ⟨w.heap.size, 0, none⟩ (.int .i64 v)) w.heap.size 128 [.int .i64 (v), .int .i64 (n : Int)] ∧ Below w.heap.size w (w2.setCell ⟨w.heap.size, 0, none⟩ (.int .i64 v))) := Lib.hid (fun v => ⟨hk2.set 0 (.int .i64 v), HB2.out.setCell (Nat.le_refl _) _⟩)
        clear hk2
        obtain ⟨q0', q1, q2, q3, q4, q5⟩ := (HA.out _ HB2.out).c2
        have q0 : _ = some (Value.int .i64 2) := q0'
        clear q0'
        clear HA
        rcases Int.lt_or_le i 0 with hneg | hpos
        · rcases Int.lt_or_le (i + (n : Int)) 0 with hr | hr
          · have hw : IntKind.i64.wrap (i + (n : Int)) = i + n := by rw [IntKind.wrap_i64]; omega
            have hmin : min (i + (n : Int)) (n : Int) = i + n := by omega
            have hmax : max (0 : Int) (i + (n : Int)) = 0 := by omega
            have HRN : Hid (rawEdge n 0 (.int i) = some (i + n)) := Lib.hid (by unfold rawEdge; simp only; first | rw [if_pos (by omega)] | rw [if_neg (by omega)])
            have HV : Hid (((clampE n (i + n) : Nat) : Int) = 0) := Lib.hid (clamp_lo n _ hr)
            have HN : Hid (Blk (w2.setCell ⟨w.heap.size, 0, none⟩ (.int .i64 (0))) w.heap.size 128 [.int .i64 (((clampE n (i + n) : Nat) : Int)), .int .i64 (n : Int)]) := Lib.hid (by rw [HV.out]; exact (HKS.out _).1)
            have HBN := Lib.hid (HKS.out (0)).2
            clear HKS
            go_wp2_with fail
            first
            | exact ⟨⟨HBN, .inr (.inl ⟨rfl, i + n, HRN, HN⟩)⟩, by simp [intOf]⟩
            | (go_roundw
               case rel => first | exact ⟨HBN, .inr (.inl ⟨rfl, i + n, HRN, HN⟩)⟩ | ((repeat apply Exists.intro); exact ⟨⟨HBN, .inr (.inl ⟨rfl, i + n, HRN, HN⟩)⟩, rfl⟩)
               case measure => simp [intOf])
          · have hw : IntKind.i64.wrap (i + (n : Int)) = i + n := by rw [IntKind.wrap_i64]; omega
            have hmin : min (i + (n : Int)) (n : Int) = i + n := by omega
            have hmax : max (0 : Int) (i + (n : Int)) = i + n := by omega
            have HRN : Hid (rawEdge n 0 (.int i) = some (i + n)) := Lib.hid (by unfold rawEdge; simp only; first | rw [if_pos (by omega)] | rw [if_neg (by omega)])
            have HV : Hid (((clampE n (i + n) : Nat) : Int) = i + n) := Lib.hid (clamp_in n _ hr (by omega))
            have HN : Hid (Blk (w2.setCell ⟨w.heap.size, 0, none⟩ (.int .i64 (i + n))) w.heap.size 128 [.int .i64 (((clampE n (i + n) : Nat) : Int)), .int .i64 (n : Int)]) := Lib.hid (by rw [HV.out]; exact (HKS.out _).1)
            have HBN := Lib.hid (HKS.out (i + n)).2
            clear HKS
            go_wp2_with fail
            first
            | exact ⟨⟨HBN, .inr (.inl ⟨rfl, i + n, HRN, HN⟩)⟩, by simp [intOf]⟩
            | (go_roundw
               case rel => first | exact ⟨HBN, .inr (.inl ⟨rfl, i + n, HRN, HN⟩)⟩ | ((repeat apply Exists.intro); exact ⟨⟨HBN, .inr (.inl ⟨rfl, i + n, HRN, HN⟩)⟩, rfl⟩)
               case measure => simp [intOf])
        · rcases Int.lt_or_le (n : Int) i with hr | hr
          · have hmin : min i (n : Int) = n := by omega
            have hmax : max (0 : Int) (n : Int) = n := by omega
            have HRN : Hid (rawEdge n 0 (.int i) = some (i)) := Lib.hid (by unfold rawEdge; simp only; first | rw [if_pos (by omega)] | rw [if_neg (by omega)])
            have HV : Hid (((clampE n (i) : Nat) : Int) = (n : Int)) := Lib.hid (clamp_hi n _ hr)
            have HN : Hid (Blk (w2.setCell ⟨w.heap.size, 0, none⟩ (.int .i64 ((n : Int)))) w.heap.size 128 [.int .i64 (((clampE n (i) : Nat) : Int)), .int .i64 (n : Int)]) := Lib.hid (by rw [HV.out]; exact (HKS.out _).1)
            have HBN := Lib.hid (HKS.out ((n : Int))).2
            clear HKS
            go_wp2_with fail
            first
            | exact ⟨⟨HBN, .inr (.inl ⟨rfl, i, HRN, HN⟩)⟩, by simp [intOf]⟩
            | (go_roundw
               case rel => first | exact ⟨HBN, .inr (.inl ⟨rfl, i, HRN, HN⟩)⟩ | ((repeat apply Exists.intro); exact ⟨⟨HBN, .inr (.inl ⟨rfl, i, HRN, HN⟩)⟩, rfl⟩)
               case measure => simp [intOf])
          · have hmin : min i (n : Int) = i := by omega
            have hmax : max (0 : Int) i = i := by omega
            have HRN : Hid (rawEdge n 0 (.int i) = some (i)) := Lib.hid (by unfold rawEdge; simp only; first | rw [if_pos (by omega)] | rw [if_neg (by omega)])
            have HV : Hid (((clampE n (i) : Nat) : Int) = i) := Lib.hid (clamp_in n _ hpos hr)
            have HN : Hid (Blk (w2.setCell ⟨w.heap.size, 0, none⟩ (.int .i64 (i))) w.heap.size 128 [.int .i64 (((clampE n (i) : Nat) : Int)), .int .i64 (n : Int)]) := Lib.hid (by rw [HV.out]; exact (HKS.out _).1)
            have HBN := Lib.hid (HKS.out (i)).2
            clear HKS
            go_wp2_with fail
            first
            | exact ⟨⟨HBN, .inr (.inl ⟨rfl, i, HRN, HN⟩)⟩, by simp [intOf]⟩
            | (go_roundw
               case rel => first | exact ⟨HBN, .inr (.inl ⟨rfl, i, HRN, HN⟩)⟩ | ((repeat apply Exists.intro); exact ⟨⟨HBN, .inr (.inl ⟨rfl, i, HRN, HN⟩)⟩, rfl⟩)
               case measure => simp [intOf])
    · cases y with
      | non =>
        obtain ⟨q0', q1, q2, q3, q4, q5⟩ := (HA.out _ HB.out).c3
        have q0 : _ = some (Value.int .i64 0) := q0'
        clear q0'
        have HRN : Hid (rawEdge n n .non = some (n : Int)) := Lib.hid rfl
        have HN : Hid (Blk wr w.heap.size 128 [.int .i64 ((clampE n ra : Nat) : Int), .int .i64 (((clampE n (n : Int) : Nat) : Int))]) := Lib.hid (by rw [show ((clampE n (n : Int) : Nat) : Int) = (n : Int) by unfold clampE; omega]; exact HK.out)
        clear HA HP
        go_wp2_with fail
        first
        | exact ⟨⟨HB, .inr (.inr ⟨rfl, ra, (n : Int), HR, HRN, HN⟩)⟩, by simp [intOf]⟩
        | (go_roundw
           case rel => exact ⟨HB, .inr (.inr ⟨rfl, ra, (n : Int), HR, HRN, HN⟩)⟩
           case measure => simp [intOf])
      | str s =>
        obtain ⟨q0', q1, q2, q3, q4, q5⟩ := (HA.out _ HB.out).c3
        have q0 : _ = some (Value.int .i64 4) := q0'
        clear q0'
        have NC : Hid (Calls Tryz.prog 25 #[.agg #[.int .i64 4, .bool n2, .slice a2 l2 c2, .int .u64 0, .string t2, .slice none 0 0]] wr _) := Lib.hid (numInt_any (.str s) n2 a2 l2 c2 t2 wr (HA.out _ HB.out).2.2 HP.out.2)
        have HE : Hid (edges n x (.str s) = none) := Lib.hid (by unfold edges; rw [HR.out]; rfl)
        clear HP
        go_wp2_with fail
        refine NC.out.mono ?_
        rintro e w1 ⟨q, p', k', d', rfl, hb1, hc⟩
        have IC : Hid (Calls Tryz.prog 26 #[.agg #[.bool q, .slice p' k' d']] w1 fun e w'' => e = .returned (.tuple #[.int .i64 0, .bool true]) ∧ Below wr.heap.size wr w'') := Lib.hid hc
        clear hb1 hc NC
        go_wp2_with fail
        refine IC.out.mono ?_
        rintro e w2 ⟨rfl, hb2⟩
        have HB2 := Lib.hid (HB.out.trans (hb2.mono HB.out.size))
        clear hb2 IC q0 q1 q2 q3 q4 q5
        obtain ⟨q0', q1, q2, q3, q4, q5⟩ := (HA.out _ HB2.out).c3
        have q0 : _ = some (Value.int .i64 4) := q0'
        clear q0'
        clear HA
        go_wp2_with fail
        exact bodyPost_ret (v := .tuple #[.int .i64 0, .int .i64 0, .bool false]) (by simp [results, Tryz.results43, go_sem]) rfl ⟨HB2.out, .inr ⟨HE.out, rfl⟩⟩
      | int i =>
        obtain ⟨q0', q1, q2, q3, q4, q5⟩ := (HA.out _ HB.out).c3
        have q0 : _ = some (Value.int .i64 2) := q0'
        clear q0'
        have NC : Hid (Calls Tryz.prog 25 #[.agg #[.int .i64 2, .bool n2, .slice a2 l2 c2, .int .u64 0, .string t2, .slice none 0 0]] wr _) := Lib.hid (numInt_any (.int i) n2 a2 l2 c2 t2 wr (HA.out _ HB.out).2.2 HP.out.2)
        obtain ⟨i1, i2⟩ : -2147483648 ≤ i ∧ i ≤ 2147483647 := HP.out.2
        clear HP
        go_wp2_with fail
        refine NC.out.mono ?_
        rintro e w1 ⟨q, p', k', d', rfl, hb1, hc⟩
        have IC : Hid (Calls Tryz.prog 26 #[.agg #[.bool q, .slice p' k' d']] w1 fun e w'' => e = .returned (.tuple #[.int .i64 i, .bool true]) ∧ Below wr.heap.size wr w'') := Lib.hid hc
        clear hb1 hc NC
        go_wp2_with fail
        refine IC.out.mono ?_
        rintro e w2 ⟨rfl, hb2⟩
        have HB2 := Lib.hid (HB.out.trans (hb2.mono HB.out.size))
        have hk2 := HK.out.below hb2 HK.out.lt
        clear hb2 IC q0 q1 q2 q3 q4 q5 HK
        have v0 := hk2.cell 0 (by simp)
        have v1 := hk2.cell 1 (by simp)
        have f0 := hk2.free 1
        have l0 := hk2.lt
        have HKS : Hid (∀ v : Int, Blk (w2.setCell ⟨w.heap.size, 1, none⟩ (.int .i64 v)) w.heap.size 128 [.int .i64 ((clampE n ra : Nat) : Int), .int .i64 (v)] ∧ Below w.heap.size w (w2.setCell ⟨w.heap.size, 1, none⟩ (.int .i64 v))) := Lib.hid (fun v => ⟨hk2.set 1 (.int .i64 v), HB2.out.setCell (Nat.le_refl _) _⟩)
        clear hk2
        obtain ⟨q0', q1, q2, q3, q4, q5⟩ := (HA.out _ HB2.out).c3
        have q0 : _ = some (Value.int .i64 2) := q0'
        clear q0'
        clear HA
        rcases Int.lt_or_le i 0 with hneg | hpos
        · rcases Int.lt_or_le (i + (n : Int)) 0 with hr | hr
          · have hw : IntKind.i64.wrap (i + (n : Int)) = i + n := by rw [IntKind.wrap_i64]; omega
            have hmin : min (i + (n : Int)) (n : Int) = i + n := by omega
            have hmax : max (0 : Int) (i + (n : Int)) = 0 := by omega
            have HRN : Hid (rawEdge n n (.int i) = some (i + n)) := Lib.hid (by unfold rawEdge; simp only; first | rw [if_pos (by omega)] | rw [if_neg (by omega)])
            have HV : Hid (((clampE n (i + n) : Nat) : Int) = 0) := Lib.hid (clamp_lo n _ hr)
            have HN : Hid (Blk (w2.setCell ⟨w.heap.size, 1, none⟩ (.int .i64 (0))) w.heap.size 128 [.int .i64 ((clampE n ra : Nat) : Int), .int .i64 (((clampE n (i + n) : Nat) : Int))]) := Lib.hid (by rw [HV.out]; exact (HKS.out _).1)
            have HBN := Lib.hid (HKS.out (0)).2
            clear HKS
            go_wp2_with fail
            first
            | exact ⟨⟨HBN, .inr (.inr ⟨rfl, ra, i + n, HR, HRN, HN⟩)⟩, by simp [intOf]⟩
            | (go_roundw
               case rel => first | exact ⟨HBN, .inr (.inr ⟨rfl, ra, i + n, HR, HRN, HN⟩)⟩ | ((repeat apply Exists.intro); exact ⟨⟨HBN, .inr (.inr ⟨rfl, ra, i + n, HR, HRN, HN⟩)⟩, rfl⟩)
               case measure => simp [intOf])
          · have hw : IntKind.i64.wrap (i + (n : Int)) = i + n := by rw [IntKind.wrap_i64]; omega
            have hmin : min (i + (n : Int)) (n : Int) = i + n := by omega
            have hmax : max (0 : Int) (i + (n : Int)) = i + n := by omega
            have HRN : Hid (rawEdge n n (.int i) = some (i + n)) := Lib.hid (by unfold rawEdge; simp only; first | rw [if_pos (by omega)] | rw [if_neg (by omega)])
            have HV : Hid (((clampE n (i + n) : Nat) : Int) = i + n) := Lib.hid (clamp_in n _ hr (by omega))
            have HN : Hid (Blk (w2.setCell ⟨w.heap.size, 1, none⟩ (.int .i64 (i + n))) w.heap.size 128 [.int .i64 ((clampE n ra : Nat) : Int), .int .i64 (((clampE n (i + n) : Nat) : Int))]) := Lib.hid (by rw [HV.out]; exact (HKS.out _).1)
            have HBN := Lib.hid (HKS.out (i + n)).2
            clear HKS
            go_wp2_with fail
            first
            | exact ⟨⟨HBN, .inr (.inr ⟨rfl, ra, i + n, HR, HRN, HN⟩)⟩, by simp [intOf]⟩
            | (go_roundw
               case rel => first | exact ⟨HBN, .inr (.inr ⟨rfl, ra, i + n, HR, HRN, HN⟩)⟩ | ((repeat apply Exists.intro); exact ⟨⟨HBN, .inr (.inr ⟨rfl, ra, i + n, HR, HRN, HN⟩)⟩, rfl⟩)
               case measure => simp [intOf])
        · rcases Int.lt_or_le (n : Int) i with hr | hr
          · have hmin : min i (n : Int) = n := by omega
            have hmax : max (0 : Int) (n : Int) = n := by omega
            have HRN : Hid (rawEdge n n (.int i) = some (i)) := Lib.hid (by unfold rawEdge; simp only; first | rw [if_pos (by omega)] | rw [if_neg (by omega)])
            have HV : Hid (((clampE n (i) : Nat) : Int) = (n : Int)) := Lib.hid (clamp_hi n _ hr)
            have HN : Hid (Blk (w2.setCell ⟨w.heap.size, 1, none⟩ (.int .i64 ((n : Int)))) w.heap.size 128 [.int .i64 ((clampE n ra : Nat) : Int), .int .i64 (((clampE n (i) : Nat) : Int))]) := Lib.hid (by rw [HV.out]; exact (HKS.out _).1)
            have HBN := Lib.hid (HKS.out ((n : Int))).2
            clear HKS
            go_wp2_with fail
            first
            | exact ⟨⟨HBN, .inr (.inr ⟨rfl, ra, i, HR, HRN, HN⟩)⟩, by simp [intOf]⟩
            | (go_roundw
               case rel => first | exact ⟨HBN, .inr (.inr ⟨rfl, ra, i, HR, HRN, HN⟩)⟩ | ((repeat apply Exists.intro); exact ⟨⟨HBN, .inr (.inr ⟨rfl, ra, i, HR, HRN, HN⟩)⟩, rfl⟩)
               case measure => simp [intOf])
          · have hmin : min i (n : Int) = i := by omega
            have hmax : max (0 : Int) i = i := by omega
            have HRN : Hid (rawEdge n n (.int i) = some (i)) := Lib.hid (by unfold rawEdge; simp only; first | rw [if_pos (by omega)] | rw [if_neg (by omega)])
            have HV : Hid (((clampE n (i) : Nat) : Int) = i) := Lib.hid (clamp_in n _ hpos hr)
            have HN : Hid (Blk (w2.setCell ⟨w.heap.size, 1, none⟩ (.int .i64 (i))) w.heap.size 128 [.int .i64 ((clampE n ra : Nat) : Int), .int .i64 (((clampE n (i) : Nat) : Int))]) := Lib.hid (by rw [HV.out]; exact (HKS.out _).1)
            have HBN := Lib.hid (HKS.out (i)).2
            clear HKS
            go_wp2_with fail
            first
            | exact ⟨⟨HBN, .inr (.inr ⟨rfl, ra, i, HR, HRN, HN⟩)⟩, by simp [intOf]⟩
            | (go_roundw
               case rel => first | exact ⟨HBN, .inr (.inr ⟨rfl, ra, i, HR, HRN, HN⟩)⟩ | ((repeat apply Exists.intro); exact ⟨⟨HBN, .inr (.inr ⟨rfl, ra, i, HR, HRN, HN⟩)⟩, rfl⟩)
               case measure => simp [intOf])
    · have HE : Hid (edges n x y = some (clampE n ra, clampE n rb)) := Lib.hid (by unfold edges; rw [HR.out, HS.out])
      obtain ⟨A, hA⟩ : ∃ A, A = clampE n ra := ⟨_, rfl⟩
      obtain ⟨B, hB⟩ : ∃ B, B = clampE n rb := ⟨_, rfl⟩
      rw [← hA, ← hB] at HE HK
      have c0 : wr.cell? ⟨w.heap.size, 0, none⟩ = some (.int .i64 (A : Int)) := HK.out.cell 0 (by simp)
      have c1' : wr.cell? ⟨w.heap.size, 1, none⟩ = some (.int .i64 (B : Int)) := HK.out.cell 1 (by simp)
      have l0 := HK.out.lt
      obtain ⟨M, hM⟩ : ∃ M : Int, M = ((max A B : Nat) : Int) := ⟨_, rfl⟩
      have hmx : max (A : Int) (B : Int) = M := by omega
      have HM := Lib.hid hM
      clear hM hA hB HA HP HR HS HK
      go_wp2_with fail
      go_quiet (fail)
      go_wp2_with fail
      exact bodyPost_ret (v := .tuple #[.int .i64 (A : Int), .int .i64 M, .bool true]) (by simp [results, Tryz.results43, go_sem]) rfl ⟨below_drewN HB.out _, .inl ⟨A, B, HE.out, by rw [HM.out]⟩⟩
end Go.Proofs.YtoggalnjjhcmkaaGreat
