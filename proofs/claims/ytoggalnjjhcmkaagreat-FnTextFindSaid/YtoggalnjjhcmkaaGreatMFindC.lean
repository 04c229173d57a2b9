/- spec.found, spec.TextMethod and spec.Asked at the names find, rfind, index, rindex (printed by genffound.py). spec.TextMethod and spec.Asked at the names find, rfind, index, rindex; spec.NumberOf of the answer (printed by genfask.py). -/
import Derived.Test.YtoggalnjjhcmkaaGreatFSpan
import Derived.Test.YtoggalnjjhcmkaaGreatIntVal
import Derived.Test.YtoggalnjjhcmkaaGreatDigLaw
namespace Go.Proofs.YtoggalnjjhcmkaaGreat
open Go.RowKit Dig
set_option linter.unusedVariables false
set_option linter.unusedSimpArgs false
set_option maxRecDepth 100000

def ansS : Option Int → Scal
  | some i => .int i
  | none => .non
/-- what the reference answers to a search -/
def AnsPost (r : Option Int) (w : World) (e : Ending) (w' : World) : Prop :=
  ∃ n a l c t, e = .returned (.tuple #[.agg #[.int .i64 (ansS r).kind, .bool n, .slice a l c, .int .u64 0, .string t, .slice none 0 0], .bool r.isSome]) ∧ VaP w' (ansS r) n a l c t ∧ Below w.heap.size w w'
theorem vaP_non (w : World) : VaP w .non false none 0 0 ByteArray.empty := rfl
/-- an answer that comes into the result's cell -/
theorem vaP_store {w w' : World} {g : Nat} {z : Scal} {n : Bool} {a : Option Addr} {l c : Nat} {t : ByteArray} {x0 x1 x2 x3 x4 x5 : Value} (h : VaP w' z n a l c t) (hk : Blk w' g 26 [x0, x1, x2, x3, x4, x5]) (hd : ∀ u ∈ [x0, x1, x2, x3, x4, x5], ∀ m, u ≠ bv m) (hb : Below w.heap.size w w') (hg : w.heap.size ≤ g) :
    VaP ((((((w'.setCell ⟨g, 0, none⟩ (.int .i64 z.kind)).setCell ⟨g, 1, none⟩ (.bool n)).setCell ⟨g, 2, none⟩ (.slice a l c)).setCell ⟨g, 3, none⟩ (.int .u64 0)).setCell ⟨g, 4, none⟩ (.string t)).setCell ⟨g, 5, none⟩ (.slice none 0 0)) z n a l c t ∧
    Below w.heap.size w ((((((w'.setCell ⟨g, 0, none⟩ (.int .i64 z.kind)).setCell ⟨g, 1, none⟩ (.bool n)).setCell ⟨g, 2, none⟩ (.slice a l c)).setCell ⟨g, 3, none⟩ (.int .u64 0)).setCell ⟨g, 4, none⟩ (.string t)).setCell ⟨g, 5, none⟩ (.slice none 0 0)) := by
  refine ⟨?_, six_below hb hg _ _ _ _ _ _⟩
  have hu : Up (some g) w' ((((((w'.setCell ⟨g, 0, none⟩ (.int .i64 z.kind)).setCell ⟨g, 1, none⟩ (.bool n)).setCell ⟨g, 2, none⟩ (.slice a l c)).setCell ⟨g, 3, none⟩ (.int .u64 0)).setCell ⟨g, 4, none⟩ (.string t)).setCell ⟨g, 5, none⟩ (.slice none 0 0)) :=
    ((((((Up.refl (some g) w').set 0 _).set 1 _).set 2 _).set 3 _).set 4 _).set 5 _
  revert hu
  generalize ((((((w'.setCell ⟨g, 0, none⟩ (.int .i64 z.kind)).setCell ⟨g, 1, none⟩ (.bool n)).setCell ⟨g, 2, none⟩ (.slice a l c)).setCell ⟨g, 3, none⟩ (.int .u64 0)).setCell ⟨g, 4, none⟩ (.string t)).setCell ⟨g, 5, none⟩ (.slice none 0 0)) = W
  intro hu
  have hsz := hu.size
  cases z with
  | non => exact h
  | str s => exact h
  | int i =>
    obtain ⟨mag, e, ms, hm, hsl⟩ : Va w' w'.heap.size (.agg #[.int .i64 2, .bool n, .slice a l c, .int .u64 0, .string t, .slice none 0 0]) i := h
    exact ⟨mag, e, ms, hm, (Sl.up_far hsl hk (not_bv hd ms) hu).more hsz⟩
theorem zero_not_bv : ∀ u ∈ [Value.int .i64 0, .bool false, .slice none 0 0, .int .u64 0, .string { data := #[] }, .slice none 0 0], ∀ m, u ≠ bv m := by
  intro u hu m
  simp only [List.mem_cons, List.mem_nil_iff, or_false] at hu
  rcases hu with rfl | rfl | rfl | rfl | rfl | rfl <;> simp [bv]
set_option maxHeartbeats 6400000 in
theorem found_find (s p : ByteArray) (g : Nat) (x y : Scal) (n1 n2 : Bool) (a1 a2 : Option Addr) (l1 c1 l2 c2 : Nat) (t1 t2 : ByteArray) (w : World) (hs : s.size ≤ 60) (hp : p.size ≤ 60) (hA : SArgs w g p x y n1 n2 a1 a2 l1 c1 l2 c2 t1 t2) (px : Pl x) (py : Pl y) :
    Calls Tryz.prog 79 #[.string s, .string ({ data := #[102, 105, 110, 100] } : ByteArray), .slice (some ⟨g, 0, none⟩) 3 3] w (AnsPost (findR true false s p x y) w) := by
  obtain ⟨W0, hW0⟩ : ∃ W0, W0 = w.alloc (.cells #[.int .i64 0, .bool false, .slice none 0 0, .int .u64 0, .string { data := #[] }, .slice none 0 0] 26) := ⟨_, rfl⟩
  have hz : Blk W0 w.heap.size 26 [.int .i64 0, .bool false, .slice none 0 0, .int .u64 0, .string { data := #[] }, .slice none 0 0] := by rw [hW0]; exact blk_zero w
  have hb0 : Below w.heap.size w W0 := by rw [hW0]; exact (Below.refl _ _).alloc (Nat.le_refl _) _
  have SP := Lib.hid (span_any s.size g p x y n1 n2 a1 a2 l1 c1 l2 c2 t1 t2 W0 (by omega) (hA.below hb0) px py)
  have HA : Hid (∀ W, Below w.heap.size w W → SArgs W g p x y n1 n2 a1 a2 l1 c1 l2 c2 t1 t2) := Lib.hid (fun W h => hA.below h)
  have HZ : Hid (∀ W, Below W0.heap.size W0 W → Blk W w.heap.size 26 [.int .i64 0, .bool false, .slice none 0 0, .int .u64 0, .string { data := #[] }, .slice none 0 0] ∧ Below w.heap.size w W) := Lib.hid (fun W h => ⟨hz.below h hz.lt, hb0.trans (h.mono hb0.size)⟩)
  have SM : Hid (∀ (j : Int) (W : World), -1 ≤ j → j ≤ 60 → Calls Tryz.prog 12 #[.int .i64 j] W fun e w' => ∃ q p k' c', e = .returned (.agg #[.bool q, .slice p k' c']) ∧ Below W.heap.size W w' ∧ Hid (Calls Tryz.prog 27 #[.agg #[.bool q, .slice p k' c']] w' fun e w'' => ∃ n a l c, e = .returned (.agg #[.int .i64 2, .bool n, .slice a l c, .int .u64 0, .string ByteArray.empty, .slice none 0 0]) ∧ VaP w'' (.int j) n a l c ByteArray.empty ∧ Below W.heap.size W w'')) := Lib.hid (fun j W h1 h2 => by
    refine (small_any j W (by omega) (by omega)).mono ?_
    rintro e w' ⟨v, rfl, hs, hb⟩
    obtain ⟨q, p, k', c', rfl⟩ := hs.form
    refine ⟨q, p, k', c', rfl, hb, Lib.hid ((intVal_any _ j w' hs (small_lim j (by omega) (by omega))).mono ?_)⟩
    intro e w'' hv
    obtain ⟨n, a, k, c, rfl, hn, hby, hbb⟩ := VaPost.parts hv
    have hva : VaP w'' (.int j) n a k c ByteArray.empty := by subst hn; exact ⟨_, rfl, hby⟩
    exact ⟨n, a, k, c, rfl, hva, hb.trans (hbb.mono hb.size)⟩)
  obtain ⟨d0, d4⟩ := hA.c1
  have lg := hA.1.lt
  have lz := hz.lt
  clear hA px py hb0 hz
  go_enter Tryz.func79, Tryz.ntmps79
  go_wp2_with fail
  rw [← hW0]
  clear hW0
  refine SP.out.mono ?_
  rintro e w1 ⟨hb1, ⟨A, B, hr, rfl⟩ | ⟨hr, rfl⟩⟩
  · obtain ⟨hk1, hbw1⟩ := HZ.out w1 hb1
    obtain ⟨e0, e4⟩ := (HA.out w1 hbw1).c1
    have HE : Hid (findR true false s p x y = if foundAt false s p A B < 0 && !true then none else some (foundAt false s p A B)) := Lib.hid (by unfold findR; rw [hr])
    have hAB : A ≤ s.size ∧ B ≤ s.size := by
      unfold edges at hr
      split at hr
      · simp only [Option.some.injEq, Prod.mk.injEq] at hr
        obtain ⟨rfl, rfl⟩ := hr
        exact ⟨clampE_le _ _, clampE_le _ _⟩
      · cases hr
    have hbdA := foundAt_bd false s p A B hAB.1 hAB.2
    obtain ⟨T, hT⟩ : ∃ T, T = max A B := ⟨_, rfl⟩
    obtain ⟨K, hK⟩ : ∃ K, K = T + 1 - p.size - A := ⟨_, rfl⟩
    have hTs : T ≤ 60 ∧ T ≤ s.size ∧ A ≤ T := by omega
    have HFA : Hid (foundAt false s p A B = firstIn (occB s p) A K) := Lib.hid (by unfold foundAt; rw [hK, hT]; rw [if_neg (by simp)])
    have HBD : Hid (foundAt false s p A B = -1 ∨ (0 ≤ foundAt false s p A B ∧ foundAt false s p A B ≤ 60)) := Lib.hid (by omega)
    rw [← hT]
    have HK1 := Lib.hid hk1; have HBW1 := Lib.hid hbw1; have HB1 := Lib.hid hb1
    clear hb1 hr d0 d4 hAB hbdA hT hk1 hbw1 HA SP
    go_wp2_with fail
    go_loop [12, 13, 14, 15, 16] (fun a b c d i => ∃ j : Nat, A ≤ j ∧ j ≤ A + K ∧ i = .int .i64 (j : Int) ∧ (∃ F : Int, a = .int .i64 F ∧ Hid (F = firstIn (occB s p) A (j - A))) ∧ (∃ L : Int, b = .int .i64 L ∧ Hid (L = lastIn (occB s p) A (j - A))) ∧ (∃ m : Int, c = .int .i64 m) ∧ (∃ nx : Int, d = .int .i64 nx)) (fun _ _ _ _ i => 61 - (intOf i).toNat)
    case atStart => exact ⟨A, Nat.le_refl _, by omega, rfl, ⟨-1, rfl, Lib.hid (by rw [Nat.sub_self]; rfl)⟩, ⟨-1, rfl, Lib.hid (by rw [Nat.sub_self]; rfl)⟩, ⟨0, rfl⟩, ⟨_, rfl⟩⟩
    case round =>
      obtain ⟨j, hj1, hj2, rfl, ⟨F, rfl, HF⟩, ⟨L, rfl, HL⟩, ⟨m, rfl⟩, nx, rfl⟩ := hrel
      by_cases hlt : j + p.size ≤ T
      · have hjn : j + 1 ≤ A + K := by omega
        have ej : j + 1 - A = (j - A) + 1 := by omega
        have ej2 : A + (j - A) = j := by omega
        have hles : j + p.size ≤ s.size := by omega
        have hj60 : j ≤ 60 := by omega
        cases hocc : occB s p j with
        | false =>
          have ho : ((s.extract j (j + p.size)).toList == p.toList) = false := hocc
          have HF1 : Hid (F = firstIn (occB s p) A (j + 1 - A)) := Lib.hid (by rw [HF.out, ej, firstIn_miss _ _ _ (by rw [ej2]; exact hocc)])
          have HL1 : Hid (L = lastIn (occB s p) A (j + 1 - A)) := Lib.hid (by rw [HL.out, ej, lastIn_miss _ _ _ (by rw [ej2]; exact hocc)])
          clear hocc ej ej2 HF HL
          go_wp2_with fail
          go_round
          case rel => exact ⟨j + 1, by omega, hjn, by go_num, ⟨F, rfl, HF1⟩, ⟨L, rfl, HL1⟩, ⟨m, rfl⟩, ⟨nx, rfl⟩⟩
          case measure => simp [intOf]; omega
        | true =>
          have ho : ((s.extract j (j + p.size)).toList == p.toList) = true := hocc
          have HL1 : Hid ((j : Int) = lastIn (occB s p) A (j + 1 - A)) := Lib.hid (by rw [ej, lastIn_hit _ _ _ (by rw [ej2]; exact hocc), ej2])
          rcases Int.lt_or_le F 0 with hF0 | hF0
          · have HF1 : Hid ((j : Int) = firstIn (occB s p) A (j + 1 - A)) := Lib.hid (by rw [ej, firstIn_hit _ _ _ (by rw [← HF.out]; exact hF0) (by rw [ej2]; exact hocc), ej2])
            clear hocc ej ej2 HF HL
            rcases Int.lt_or_le (j : Int) nx with hnx | hnx
            · go_wp2_with fail
              go_round
              case rel => exact ⟨j + 1, by omega, hjn, by go_num, ⟨_, rfl, HF1⟩, ⟨_, rfl, HL1⟩, ⟨_, rfl⟩, ⟨_, rfl⟩⟩
              case measure => simp [intOf]; omega
            · go_wp2_with fail
              go_round
              case rel => exact ⟨j + 1, by omega, hjn, by go_num, ⟨_, rfl, HF1⟩, ⟨_, rfl, HL1⟩, ⟨_, rfl⟩, ⟨_, rfl⟩⟩
              case measure => simp [intOf]; omega
          · have HF1 : Hid (F = firstIn (occB s p) A (j + 1 - A)) := Lib.hid (by rw [HF.out, ej, firstIn_keep _ _ _ (by rw [← HF.out]; exact hF0)])
            clear hocc ej ej2 HF HL
            rcases Int.lt_or_le (j : Int) nx with hnx | hnx
            · go_wp2_with fail
              go_round
              case rel => exact ⟨j + 1, by omega, hjn, by go_num, ⟨_, rfl, HF1⟩, ⟨_, rfl, HL1⟩, ⟨_, rfl⟩, ⟨_, rfl⟩⟩
              case measure => simp [intOf]; omega
            · go_wp2_with fail
              go_round
              case rel => exact ⟨j + 1, by omega, hjn, by go_num, ⟨_, rfl, HF1⟩, ⟨_, rfl, HL1⟩, ⟨_, rfl⟩, ⟨_, rfl⟩⟩
              case measure => simp [intOf]; omega
      · have ejk : j = A + K := by omega
        have HR : Hid (foundAt false s p A B = F) := Lib.hid (by rw [HFA.out, HF.out, ejk, Nat.add_sub_cancel_left])
        have HBD1 : Hid (F = -1 ∨ (0 ≤ F ∧ F ≤ 60)) := Lib.hid (by rw [← HR.out]; exact HBD.out)
        clear ejk HFA HF HL HBD e4
        obtain ⟨⟨z0, z1, z2, z3, z4, z5⟩, y0, y1, y2, y3, y4, y5⟩ := six_ready (w := w) HK1.out
        have lz1 := HK1.out.lt
        rcases Int.lt_or_le F 0 with hneg | hpos
        · have hm1 : F = -1 := by have := HBD1.out; omega
          subst hm1
          have HX : Hid (findR true false s p x y = some (-1)) := Lib.hid (by rw [HE.out, HR.out]; simp)
          clear HE HR HBD1 z0 z1 z2 z3 z4 z5 y0 y1 y2 y3 y4 y5
          go_wp2_with fail
          refine (SM.out (-1) _ (by decide) (by decide)).mono ?_
          rintro e w2 ⟨q, q2, q3, q4, rfl, hb2, hc⟩
          have HC := hc
          clear hc hb2
          go_wp2_with fail
          refine HC.out.mono ?_
          rintro e w3 ⟨n, a, l, c, rfl, hva, hb3⟩
          obtain ⟨hk3, hbw3⟩ := HZ.out w3 (HB1.out.trans (hb3.mono HB1.out.size))
          obtain ⟨⟨z0, z1, z2, z3, z4, z5⟩, y0, y1, y2, y3, y4, y5⟩ := six_ready (w := w) hk3
          have lz3 := hk3.lt
          have HS := Lib.hid (vaP_store (w := w) hva hk3 zero_not_bv hbw3 (Nat.le_refl _))
          clear hva hb3 hk3 hbw3 HC
          go_wp2_with fail
          refine bodyPost_ret (v := .tuple #[.agg #[.int .i64 2, .bool n, .slice a l c, .int .u64 0, .string ByteArray.empty, .slice none 0 0], .bool true]) (by simp [results, Tryz.results79, go_sem, z0, z1, z2, z3, z4, z5]) rfl ?_
          exact ⟨n, a, l, c, ByteArray.empty, by rw [HX.out]; rfl, by rw [HX.out]; exact HS.out.1, HS.out.2⟩
        · have hle : F ≤ 60 := by have := HBD1.out; omega
          have hge : -1 ≤ F := by omega
          have HX : Hid (findR true false s p x y = some F) := Lib.hid (by
            rw [HE.out, HR.out]
            have h0 : decide (F < 0) = false := by simp; omega
            rw [if_neg (by simp [h0])])
          have HLE := Lib.hid hle; have HGE := Lib.hid hge
          clear HE HR HBD1 z0 z1 z2 z3 z4 z5 y0 y1 y2 y3 y4 y5 hle hge
          go_wp2_with fail
          refine (SM.out F _ HGE.out HLE.out).mono ?_
          rintro e w2 ⟨q, q2, q3, q4, rfl, hb2, hc⟩
          have HC := hc
          clear hc hb2
          go_wp2_with fail
          refine HC.out.mono ?_
          rintro e w3 ⟨n, a, l, c, rfl, hva, hb3⟩
          obtain ⟨hk3, hbw3⟩ := HZ.out w3 (HB1.out.trans (hb3.mono HB1.out.size))
          obtain ⟨⟨z0, z1, z2, z3, z4, z5⟩, y0, y1, y2, y3, y4, y5⟩ := six_ready (w := w) hk3
          have lz3 := hk3.lt
          have HS := Lib.hid (vaP_store (w := w) hva hk3 zero_not_bv hbw3 (Nat.le_refl _))
          clear hva hb3 hk3 hbw3 HC
          go_wp2_with fail
          refine bodyPost_ret (v := .tuple #[.agg #[.int .i64 2, .bool n, .slice a l c, .int .u64 0, .string ByteArray.empty, .slice none 0 0], .bool true]) (by simp [results, Tryz.results79, go_sem, z0, z1, z2, z3, z4, z5]) rfl ?_
          exact ⟨n, a, l, c, ByteArray.empty, by rw [HX.out]; rfl, by rw [HX.out]; exact HS.out.1, HS.out.2⟩
  · have HX : Hid (findR true false s p x y = none) := Lib.hid (by unfold findR; rw [hr])
    obtain ⟨hk1, hbw1⟩ := HZ.out w1 hb1
    obtain ⟨⟨z0, z1, z2, z3, z4, z5⟩, y0, y1, y2, y3, y4, y5⟩ := six_ready (w := w) hk1
    have lz1 := hk1.lt
    have HBW1 := Lib.hid hbw1
    clear hb1 hr d0 d4 hk1 hbw1 HA SP HZ SM
    go_wp2_with fail
    refine bodyPost_ret (v := .tuple #[.agg #[.int .i64 0, .bool false, .slice none 0 0, .int .u64 0, .string ByteArray.empty, .slice none 0 0], .bool false]) (by simp [results, Tryz.results79, go_sem, z0, z1, z2, z3, z4, z5]; rfl) rfl ?_
    refine ⟨false, none, 0, 0, ByteArray.empty, by rw [HX.out]; rfl, by rw [HX.out]; exact vaP_non _, ?_⟩
    exact six_below HBW1.out (Nat.le_refl _) _ _ _ _ _ _
set_option maxHeartbeats 6400000 in
theorem found_rfind (s p : ByteArray) (g : Nat) (x y : Scal) (n1 n2 : Bool) (a1 a2 : Option Addr) (l1 c1 l2 c2 : Nat) (t1 t2 : ByteArray) (w : World) (hs : s.size ≤ 60) (hp : p.size ≤ 60) (hA : SArgs w g p x y n1 n2 a1 a2 l1 c1 l2 c2 t1 t2) (px : Pl x) (py : Pl y) :
    Calls Tryz.prog 79 #[.string s, .string ({ data := #[114, 102, 105, 110, 100] } : ByteArray), .slice (some ⟨g, 0, none⟩) 3 3] w (AnsPost (findR true true s p x y) w) := by
  obtain ⟨W0, hW0⟩ : ∃ W0, W0 = w.alloc (.cells #[.int .i64 0, .bool false, .slice none 0 0, .int .u64 0, .string { data := #[] }, .slice none 0 0] 26) := ⟨_, rfl⟩
  have hz : Blk W0 w.heap.size 26 [.int .i64 0, .bool false, .slice none 0 0, .int .u64 0, .string { data := #[] }, .slice none 0 0] := by rw [hW0]; exact blk_zero w
  have hb0 : Below w.heap.size w W0 := by rw [hW0]; exact (Below.refl _ _).alloc (Nat.le_refl _) _
  have SP := Lib.hid (span_any s.size g p x y n1 n2 a1 a2 l1 c1 l2 c2 t1 t2 W0 (by omega) (hA.below hb0) px py)
  have HA : Hid (∀ W, Below w.heap.size w W → SArgs W g p x y n1 n2 a1 a2 l1 c1 l2 c2 t1 t2) := Lib.hid (fun W h => hA.below h)
  have HZ : Hid (∀ W, Below W0.heap.size W0 W → Blk W w.heap.size 26 [.int .i64 0, .bool false, .slice none 0 0, .int .u64 0, .string { data := #[] }, .slice none 0 0] ∧ Below w.heap.size w W) := Lib.hid (fun W h => ⟨hz.below h hz.lt, hb0.trans (h.mono hb0.size)⟩)
  have SM : Hid (∀ (j : Int) (W : World), -1 ≤ j → j ≤ 60 → Calls Tryz.prog 12 #[.int .i64 j] W fun e w' => ∃ q p k' c', e = .returned (.agg #[.bool q, .slice p k' c']) ∧ Below W.heap.size W w' ∧ Hid (Calls Tryz.prog 27 #[.agg #[.bool q, .slice p k' c']] w' fun e w'' => ∃ n a l c, e = .returned (.agg #[.int .i64 2, .bool n, .slice a l c, .int .u64 0, .string ByteArray.empty, .slice none 0 0]) ∧ VaP w'' (.int j) n a l c ByteArray.empty ∧ Below W.heap.size W w'')) := Lib.hid (fun j W h1 h2 => by
    refine (small_any j W (by omega) (by omega)).mono ?_
    rintro e w' ⟨v, rfl, hs, hb⟩
    obtain ⟨q, p, k', c', rfl⟩ := hs.form
    refine ⟨q, p, k', c', rfl, hb, Lib.hid ((intVal_any _ j w' hs (small_lim j (by omega) (by omega))).mono ?_)⟩
    intro e w'' hv
    obtain ⟨n, a, k, c, rfl, hn, hby, hbb⟩ := VaPost.parts hv
    have hva : VaP w'' (.int j) n a k c ByteArray.empty := by subst hn; exact ⟨_, rfl, hby⟩
    exact ⟨n, a, k, c, rfl, hva, hb.trans (hbb.mono hb.size)⟩)
  obtain ⟨d0, d4⟩ := hA.c1
  have lg := hA.1.lt
  have lz := hz.lt
  clear hA px py hb0 hz
  go_enter Tryz.func79, Tryz.ntmps79
  go_wp2_with fail
  rw [← hW0]
  clear hW0
  refine SP.out.mono ?_
  rintro e w1 ⟨hb1, ⟨A, B, hr, rfl⟩ | ⟨hr, rfl⟩⟩
  · obtain ⟨hk1, hbw1⟩ := HZ.out w1 hb1
    obtain ⟨e0, e4⟩ := (HA.out w1 hbw1).c1
    have HE : Hid (findR true true s p x y = if foundAt true s p A B < 0 && !true then none else some (foundAt true s p A B)) := Lib.hid (by unfold findR; rw [hr])
    have hAB : A ≤ s.size ∧ B ≤ s.size := by
      unfold edges at hr
      split at hr
      · simp only [Option.some.injEq, Prod.mk.injEq] at hr
        obtain ⟨rfl, rfl⟩ := hr
        exact ⟨clampE_le _ _, clampE_le _ _⟩
      · cases hr
    have hbdA := foundAt_bd true s p A B hAB.1 hAB.2
    obtain ⟨T, hT⟩ : ∃ T, T = max A B := ⟨_, rfl⟩
    obtain ⟨K, hK⟩ : ∃ K, K = T + 1 - p.size - A := ⟨_, rfl⟩
    have hTs : T ≤ 60 ∧ T ≤ s.size ∧ A ≤ T := by omega
    have HFA : Hid (foundAt true s p A B = lastIn (occB s p) A K) := Lib.hid (by unfold foundAt; rw [hK, hT]; rw [if_pos rfl])
    have HBD : Hid (foundAt true s p A B = -1 ∨ (0 ≤ foundAt true s p A B ∧ foundAt true s p A B ≤ 60)) := Lib.hid (by omega)
    rw [← hT]
    have HK1 := Lib.hid hk1; have HBW1 := Lib.hid hbw1; have HB1 := Lib.hid hb1
    clear hb1 hr d0 d4 hAB hbdA hT hk1 hbw1 HA SP
    go_wp2_with fail
    go_loop [12, 13, 14, 15, 16] (fun a b c d i => ∃ j : Nat, A ≤ j ∧ j ≤ A + K ∧ i = .int .i64 (j : Int) ∧ (∃ F : Int, a = .int .i64 F ∧ Hid (F = firstIn (occB s p) A (j - A))) ∧ (∃ L : Int, b = .int .i64 L ∧ Hid (L = lastIn (occB s p) A (j - A))) ∧ (∃ m : Int, c = .int .i64 m) ∧ (∃ nx : Int, d = .int .i64 nx)) (fun _ _ _ _ i => 61 - (intOf i).toNat)
    case atStart => exact ⟨A, Nat.le_refl _, by omega, rfl, ⟨-1, rfl, Lib.hid (by rw [Nat.sub_self]; rfl)⟩, ⟨-1, rfl, Lib.hid (by rw [Nat.sub_self]; rfl)⟩, ⟨0, rfl⟩, ⟨_, rfl⟩⟩
    case round =>
      obtain ⟨j, hj1, hj2, rfl, ⟨F, rfl, HF⟩, ⟨L, rfl, HL⟩, ⟨m, rfl⟩, nx, rfl⟩ := hrel
      by_cases hlt : j + p.size ≤ T
      · have hjn : j + 1 ≤ A + K := by omega
        have ej : j + 1 - A = (j - A) + 1 := by omega
        have ej2 : A + (j - A) = j := by omega
        have hles : j + p.size ≤ s.size := by omega
        have hj60 : j ≤ 60 := by omega
        cases hocc : occB s p j with
        | false =>
          have ho : ((s.extract j (j + p.size)).toList == p.toList) = false := hocc
          have HF1 : Hid (F = firstIn (occB s p) A (j + 1 - A)) := Lib.hid (by rw [HF.out, ej, firstIn_miss _ _ _ (by rw [ej2]; exact hocc)])
          have HL1 : Hid (L = lastIn (occB s p) A (j + 1 - A)) := Lib.hid (by rw [HL.out, ej, lastIn_miss _ _ _ (by rw [ej2]; exact hocc)])
          clear hocc ej ej2 HF HL
          go_wp2_with fail
          go_round
          case rel => exact ⟨j + 1, by omega, hjn, by go_num, ⟨F, rfl, HF1⟩, ⟨L, rfl, HL1⟩, ⟨m, rfl⟩, ⟨nx, rfl⟩⟩
          case measure => simp [intOf]; omega
        | true =>
          have ho : ((s.extract j (j + p.size)).toList == p.toList) = true := hocc
          have HL1 : Hid ((j : Int) = lastIn (occB s p) A (j + 1 - A)) := Lib.hid (by rw [ej, lastIn_hit _ _ _ (by rw [ej2]; exact hocc), ej2])
          rcases Int.lt_or_le F 0 with hF0 | hF0
          · have HF1 : Hid ((j : Int) = firstIn (occB s p) A (j + 1 - A)) := Lib.hid (by rw [ej, firstIn_hit _ _ _ (by rw [← HF.out]; exact hF0) (by rw [ej2]; exact hocc), ej2])
            clear hocc ej ej2 HF HL
            rcases Int.lt_or_le (j : Int) nx with hnx | hnx
            · go_wp2_with fail
              go_round
              case rel => exact ⟨j + 1, by omega, hjn, by go_num, ⟨_, rfl, HF1⟩, ⟨_, rfl, HL1⟩, ⟨_, rfl⟩, ⟨_, rfl⟩⟩
              case measure => simp [intOf]; omega
            · go_wp2_with fail
              go_round
              case rel => exact ⟨j + 1, by omega, hjn, by go_num, ⟨_, rfl, HF1⟩, ⟨_, rfl, HL1⟩, ⟨_, rfl⟩, ⟨_, rfl⟩⟩
              case measure => simp [intOf]; omega
          · have HF1 : Hid (F = firstIn (occB s p) A (j + 1 - A)) := Lib.hid (by rw [HF.out, ej, firstIn_keep _ _ _ (by rw [← HF.out]; exact hF0)])
            clear hocc ej ej2 HF HL
            rcases Int.lt_or_le (j : Int) nx with hnx | hnx
            · go_wp2_with fail
              go_round
              case rel => exact ⟨j + 1, by omega, hjn, by go_num, ⟨_, rfl, HF1⟩, ⟨_, rfl, HL1⟩, ⟨_, rfl⟩, ⟨_, rfl⟩⟩
              case measure => simp [intOf]; omega
            · go_wp2_with fail
              go_round
              case rel => exact ⟨j + 1, by omega, hjn, by go_num, ⟨_, rfl, HF1⟩, ⟨_, rfl, HL1⟩, ⟨_, rfl⟩, ⟨_, rfl⟩⟩
              case measure => simp [intOf]; omega
      · have ejk : j = A + K := by omega
        have HR : Hid (foundAt true s p A B = L) := Lib.hid (by rw [HFA.out, HL.out, ejk, Nat.add_sub_cancel_left])
        have HBD1 : Hid (L = -1 ∨ (0 ≤ L ∧ L ≤ 60)) := Lib.hid (by rw [← HR.out]; exact HBD.out)
        clear ejk HFA HF HL HBD e4
        obtain ⟨⟨z0, z1, z2, z3, z4, z5⟩, y0, y1, y2, y3, y4, y5⟩ := six_ready (w := w) HK1.out
        have lz1 := HK1.out.lt
        rcases Int.lt_or_le L 0 with hneg | hpos
        · have hm1 : L = -1 := by have := HBD1.out; omega
          subst hm1
          have HX : Hid (findR true true s p x y = some (-1)) := Lib.hid (by rw [HE.out, HR.out]; simp)
          clear HE HR HBD1 z0 z1 z2 z3 z4 z5 y0 y1 y2 y3 y4 y5
          go_wp2_with fail
          refine (SM.out (-1) _ (by decide) (by decide)).mono ?_
          rintro e w2 ⟨q, q2, q3, q4, rfl, hb2, hc⟩
          have HC := hc
          clear hc hb2
          go_wp2_with fail
          refine HC.out.mono ?_
          rintro e w3 ⟨n, a, l, c, rfl, hva, hb3⟩
          obtain ⟨hk3, hbw3⟩ := HZ.out w3 (HB1.out.trans (hb3.mono HB1.out.size))
          obtain ⟨⟨z0, z1, z2, z3, z4, z5⟩, y0, y1, y2, y3, y4, y5⟩ := six_ready (w := w) hk3
          have lz3 := hk3.lt
          have HS := Lib.hid (vaP_store (w := w) hva hk3 zero_not_bv hbw3 (Nat.le_refl _))
          clear hva hb3 hk3 hbw3 HC
          go_wp2_with fail
          refine bodyPost_ret (v := .tuple #[.agg #[.int .i64 2, .bool n, .slice a l c, .int .u64 0, .string ByteArray.empty, .slice none 0 0], .bool true]) (by simp [results, Tryz.results79, go_sem, z0, z1, z2, z3, z4, z5]) rfl ?_
          exact ⟨n, a, l, c, ByteArray.empty, by rw [HX.out]; rfl, by rw [HX.out]; exact HS.out.1, HS.out.2⟩
        · have hle : L ≤ 60 := by have := HBD1.out; omega
          have hge : -1 ≤ L := by omega
          have HX : Hid (findR true true s p x y = some L) := Lib.hid (by
            rw [HE.out, HR.out]
            have h0 : decide (L < 0) = false := by simp; omega
            rw [if_neg (by simp [h0])])
          have HLE := Lib.hid hle; have HGE := Lib.hid hge
          clear HE HR HBD1 z0 z1 z2 z3 z4 z5 y0 y1 y2 y3 y4 y5 hle hge
          go_wp2_with fail
          refine (SM.out L _ HGE.out HLE.out).mono ?_
          rintro e w2 ⟨q, q2, q3, q4, rfl, hb2, hc⟩
          have HC := hc
          clear hc hb2
          go_wp2_with fail
          refine HC.out.mono ?_
          rintro e w3 ⟨n, a, l, c, rfl, hva, hb3⟩
          obtain ⟨hk3, hbw3⟩ := HZ.out w3 (HB1.out.trans (hb3.mono HB1.out.size))
          obtain ⟨⟨z0, z1, z2, z3, z4, z5⟩, y0, y1, y2, y3, y4, y5⟩ := six_ready (w := w) hk3
          have lz3 := hk3.lt
          have HS := Lib.hid (vaP_store (w := w) hva hk3 zero_not_bv hbw3 (Nat.le_refl _))
          clear hva hb3 hk3 hbw3 HC
          go_wp2_with fail
          refine bodyPost_ret (v := .tuple #[.agg #[.int .i64 2, .bool n, .slice a l c, .int .u64 0, .string ByteArray.empty, .slice none 0 0], .bool true]) (by simp [results, Tryz.results79, go_sem, z0, z1, z2, z3, z4, z5]) rfl ?_
          exact ⟨n, a, l, c, ByteArray.empty, by rw [HX.out]; rfl, by rw [HX.out]; exact HS.out.1, HS.out.2⟩
  · have HX : Hid (findR true true s p x y = none) := Lib.hid (by unfold findR; rw [hr])
    obtain ⟨hk1, hbw1⟩ := HZ.out w1 hb1
    obtain ⟨⟨z0, z1, z2, z3, z4, z5⟩, y0, y1, y2, y3, y4, y5⟩ := six_ready (w := w) hk1
    have lz1 := hk1.lt
    have HBW1 := Lib.hid hbw1
    clear hb1 hr d0 d4 hk1 hbw1 HA SP HZ SM
    go_wp2_with fail
    refine bodyPost_ret (v := .tuple #[.agg #[.int .i64 0, .bool false, .slice none 0 0, .int .u64 0, .string ByteArray.empty, .slice none 0 0], .bool false]) (by simp [results, Tryz.results79, go_sem, z0, z1, z2, z3, z4, z5]; rfl) rfl ?_
    refine ⟨false, none, 0, 0, ByteArray.empty, by rw [HX.out]; rfl, by rw [HX.out]; exact vaP_non _, ?_⟩
    exact six_below HBW1.out (Nat.le_refl _) _ _ _ _ _ _
set_option maxHeartbeats 6400000 in
theorem found_index (s p : ByteArray) (g : Nat) (x y : Scal) (n1 n2 : Bool) (a1 a2 : Option Addr) (l1 c1 l2 c2 : Nat) (t1 t2 : ByteArray) (w : World) (hs : s.size ≤ 60) (hp : p.size ≤ 60) (hA : SArgs w g p x y n1 n2 a1 a2 l1 c1 l2 c2 t1 t2) (px : Pl x) (py : Pl y) :
    Calls Tryz.prog 79 #[.string s, .string ({ data := #[105, 110, 100, 101, 120] } : ByteArray), .slice (some ⟨g, 0, none⟩) 3 3] w (AnsPost (findR false false s p x y) w) := by
  obtain ⟨W0, hW0⟩ : ∃ W0, W0 = w.alloc (.cells #[.int .i64 0, .bool false, .slice none 0 0, .int .u64 0, .string { data := #[] }, .slice none 0 0] 26) := ⟨_, rfl⟩
  have hz : Blk W0 w.heap.size 26 [.int .i64 0, .bool false, .slice none 0 0, .int .u64 0, .string { data := #[] }, .slice none 0 0] := by rw [hW0]; exact blk_zero w
  have hb0 : Below w.heap.size w W0 := by rw [hW0]; exact (Below.refl _ _).alloc (Nat.le_refl _) _
  have SP := Lib.hid (span_any s.size g p x y n1 n2 a1 a2 l1 c1 l2 c2 t1 t2 W0 (by omega) (hA.below hb0) px py)
  have HA : Hid (∀ W, Below w.heap.size w W → SArgs W g p x y n1 n2 a1 a2 l1 c1 l2 c2 t1 t2) := Lib.hid (fun W h => hA.below h)
  have HZ : Hid (∀ W, Below W0.heap.size W0 W → Blk W w.heap.size 26 [.int .i64 0, .bool false, .slice none 0 0, .int .u64 0, .string { data := #[] }, .slice none 0 0] ∧ Below w.heap.size w W) := Lib.hid (fun W h => ⟨hz.below h hz.lt, hb0.trans (h.mono hb0.size)⟩)
  have SM : Hid (∀ (j : Int) (W : World), -1 ≤ j → j ≤ 60 → Calls Tryz.prog 12 #[.int .i64 j] W fun e w' => ∃ q p k' c', e = .returned (.agg #[.bool q, .slice p k' c']) ∧ Below W.heap.size W w' ∧ Hid (Calls Tryz.prog 27 #[.agg #[.bool q, .slice p k' c']] w' fun e w'' => ∃ n a l c, e = .returned (.agg #[.int .i64 2, .bool n, .slice a l c, .int .u64 0, .string ByteArray.empty, .slice none 0 0]) ∧ VaP w'' (.int j) n a l c ByteArray.empty ∧ Below W.heap.size W w'')) := Lib.hid (fun j W h1 h2 => by
    refine (small_any j W (by omega) (by omega)).mono ?_
    rintro e w' ⟨v, rfl, hs, hb⟩
    obtain ⟨q, p, k', c', rfl⟩ := hs.form
    refine ⟨q, p, k', c', rfl, hb, Lib.hid ((intVal_any _ j w' hs (small_lim j (by omega) (by omega))).mono ?_)⟩
    intro e w'' hv
    obtain ⟨n, a, k, c, rfl, hn, hby, hbb⟩ := VaPost.parts hv
    have hva : VaP w'' (.int j) n a k c ByteArray.empty := by subst hn; exact ⟨_, rfl, hby⟩
    exact ⟨n, a, k, c, rfl, hva, hb.trans (hbb.mono hb.size)⟩)
  obtain ⟨d0, d4⟩ := hA.c1
  have lg := hA.1.lt
  have lz := hz.lt
  clear hA px py hb0 hz
  go_enter Tryz.func79, Tryz.ntmps79
  go_wp2_with fail
  rw [← hW0]
  clear hW0
  refine SP.out.mono ?_
  rintro e w1 ⟨hb1, ⟨A, B, hr, rfl⟩ | ⟨hr, rfl⟩⟩
  · obtain ⟨hk1, hbw1⟩ := HZ.out w1 hb1
    obtain ⟨e0, e4⟩ := (HA.out w1 hbw1).c1
    have HE : Hid (findR false false s p x y = if foundAt false s p A B < 0 && !false then none else some (foundAt false s p A B)) := Lib.hid (by unfold findR; rw [hr])
    have hAB : A ≤ s.size ∧ B ≤ s.size := by
      unfold edges at hr
      split at hr
      · simp only [Option.some.injEq, Prod.mk.injEq] at hr
        obtain ⟨rfl, rfl⟩ := hr
        exact ⟨clampE_le _ _, clampE_le _ _⟩
      · cases hr
    have hbdA := foundAt_bd false s p A B hAB.1 hAB.2
    obtain ⟨T, hT⟩ : ∃ T, T = max A B := ⟨_, rfl⟩
    obtain ⟨K, hK⟩ : ∃ K, K = T + 1 - p.size - A := ⟨_, rfl⟩
    have hTs : T ≤ 60 ∧ T ≤ s.size ∧ A ≤ T := by omega
    have HFA : Hid (foundAt false s p A B = firstIn (occB s p) A K) := Lib.hid (by unfold foundAt; rw [hK, hT]; rw [if_neg (by simp)])
    have HBD : Hid (foundAt false s p A B = -1 ∨ (0 ≤ foundAt false s p A B ∧ foundAt false s p A B ≤ 60)) := Lib.hid (by omega)
    rw [← hT]
    have HK1 := Lib.hid hk1; have HBW1 := Lib.hid hbw1; have HB1 := Lib.hid hb1
    clear hb1 hr d0 d4 hAB hbdA hT hk1 hbw1 HA SP
    go_wp2_with fail
    go_loop [12, 13, 14, 15, 16] (fun a b c d i => ∃ j : Nat, A ≤ j ∧ j ≤ A + K ∧ i = .int .i64 (j : Int) ∧ (∃ F : Int, a = .int .i64 F ∧ Hid (F = firstIn (occB s p) A (j - A))) ∧ (∃ L : Int, b = .int .i64 L ∧ Hid (L = lastIn (occB s p) A (j - A))) ∧ (∃ m : Int, c = .int .i64 m) ∧ (∃ nx : Int, d = .int .i64 nx)) (fun _ _ _ _ i => 61 - (intOf i).toNat)
    case atStart => exact ⟨A, Nat.le_refl _, by omega, rfl, ⟨-1, rfl, Lib.hid (by rw [Nat.sub_self]; rfl)⟩, ⟨-1, rfl, Lib.hid (by rw [Nat.sub_self]; rfl)⟩, ⟨0, rfl⟩, ⟨_, rfl⟩⟩
    case round =>
      obtain ⟨j, hj1, hj2, rfl, ⟨F, rfl, HF⟩, ⟨L, rfl, HL⟩, ⟨m, rfl⟩, nx, rfl⟩ := hrel
      by_cases hlt : j + p.size ≤ T
      · have hjn : j + 1 ≤ A + K := by omega
        have ej : j + 1 - A = (j - A) + 1 := by omega
        have ej2 : A + (j - A) = j := by omega
        have hles : j + p.size ≤ s.size := by omega
        have hj60 : j ≤ 60 := by omega
        cases hocc : occB s p j with
        | false =>
          have ho : ((s.extract j (j + p.size)).toList == p.toList) = false := hocc
          have HF1 : Hid (F = firstIn (occB s p) A (j + 1 - A)) := Lib.hid (by rw [HF.out, ej, firstIn_miss _ _ _ (by rw [ej2]; exact hocc)])
          have HL1 : Hid (L = lastIn (occB s p) A (j + 1 - A)) := Lib.hid (by rw [HL.out, ej, lastIn_miss _ _ _ (by rw [ej2]; exact hocc)])
          clear hocc ej ej2 HF HL
          go_wp2_with fail
          go_round
          case rel => exact ⟨j + 1, by omega, hjn, by go_num, ⟨F, rfl, HF1⟩, ⟨L, rfl, HL1⟩, ⟨m, rfl⟩, ⟨nx, rfl⟩⟩
          case measure => simp [intOf]; omega
        | true =>
          have ho : ((s.extract j (j + p.size)).toList == p.toList) = true := hocc
          have HL1 : Hid ((j : Int) = lastIn (occB s p) A (j + 1 - A)) := Lib.hid (by rw [ej, lastIn_hit _ _ _ (by rw [ej2]; exact hocc), ej2])
          rcases Int.lt_or_le F 0 with hF0 | hF0
          · have HF1 : Hid ((j : Int) = firstIn (occB s p) A (j + 1 - A)) := Lib.hid (by rw [ej, firstIn_hit _ _ _ (by rw [← HF.out]; exact hF0) (by rw [ej2]; exact hocc), ej2])
            clear hocc ej ej2 HF HL
            rcases Int.lt_or_le (j : Int) nx with hnx | hnx
            · go_wp2_with fail
              go_round
              case rel => exact ⟨j + 1, by omega, hjn, by go_num, ⟨_, rfl, HF1⟩, ⟨_, rfl, HL1⟩, ⟨_, rfl⟩, ⟨_, rfl⟩⟩
              case measure => simp [intOf]; omega
            · go_wp2_with fail
              go_round
              case rel => exact ⟨j + 1, by omega, hjn, by go_num, ⟨_, rfl, HF1⟩, ⟨_, rfl, HL1⟩, ⟨_, rfl⟩, ⟨_, rfl⟩⟩
              case measure => simp [intOf]; omega
          · have HF1 : Hid (F = firstIn (occB s p) A (j + 1 - A)) := Lib.hid (by rw [HF.out, ej, firstIn_keep _ _ _ (by rw [← HF.out]; exact hF0)])
            clear hocc ej ej2 HF HL
            rcases Int.lt_or_le (j : Int) nx with hnx | hnx
            · go_wp2_with fail
              go_round
              case rel => exact ⟨j + 1, by omega, hjn, by go_num, ⟨_, rfl, HF1⟩, ⟨_, rfl, HL1⟩, ⟨_, rfl⟩, ⟨_, rfl⟩⟩
              case measure => simp [intOf]; omega
            · go_wp2_with fail
              go_round
              case rel => exact ⟨j + 1, by omega, hjn, by go_num, ⟨_, rfl, HF1⟩, ⟨_, rfl, HL1⟩, ⟨_, rfl⟩, ⟨_, rfl⟩⟩
              case measure => simp [intOf]; omega
      · have ejk : j = A + K := by omega
        have HR : Hid (foundAt false s p A B = F) := Lib.hid (by rw [HFA.out, HF.out, ejk, Nat.add_sub_cancel_left])
        have HBD1 : Hid (F = -1 ∨ (0 ≤ F ∧ F ≤ 60)) := Lib.hid (by rw [← HR.out]; exact HBD.out)
        clear ejk HFA HF HL HBD e4
        obtain ⟨⟨z0, z1, z2, z3, z4, z5⟩, y0, y1, y2, y3, y4, y5⟩ := six_ready (w := w) HK1.out
        have lz1 := HK1.out.lt
        rcases Int.lt_or_le F 0 with hneg | hpos
        · have hm1 : F = -1 := by have := HBD1.out; omega
          subst hm1
          have HX : Hid (findR false false s p x y = none) := Lib.hid (by rw [HE.out, HR.out]; simp)
          clear HE HR HBD1
          go_wp2_with fail
          refine bodyPost_ret (v := .tuple #[.agg #[.int .i64 0, .bool false, .slice none 0 0, .int .u64 0, .string ByteArray.empty, .slice none 0 0], .bool false]) (by simp [results, Tryz.results79, go_sem, z0, z1, z2, z3, z4, z5]; rfl) rfl ?_
          refine ⟨false, none, 0, 0, ByteArray.empty, by rw [HX.out]; rfl, by rw [HX.out]; exact vaP_non _, ?_⟩
          exact six_below HBW1.out (Nat.le_refl _) _ _ _ _ _ _
        · have hle : F ≤ 60 := by have := HBD1.out; omega
          have hge : -1 ≤ F := by omega
          have HX : Hid (findR false false s p x y = some F) := Lib.hid (by
            rw [HE.out, HR.out]
            have h0 : decide (F < 0) = false := by simp; omega
            rw [if_neg (by simp [h0])])
          have HLE := Lib.hid hle; have HGE := Lib.hid hge
          clear HE HR HBD1 z0 z1 z2 z3 z4 z5 y0 y1 y2 y3 y4 y5 hle hge
          go_wp2_with fail
          refine (SM.out F _ HGE.out HLE.out).mono ?_
          rintro e w2 ⟨q, q2, q3, q4, rfl, hb2, hc⟩
          have HC := hc
          clear hc hb2
          go_wp2_with fail
          refine HC.out.mono ?_
          rintro e w3 ⟨n, a, l, c, rfl, hva, hb3⟩
          obtain ⟨hk3, hbw3⟩ := HZ.out w3 (HB1.out.trans (hb3.mono HB1.out.size))
          obtain ⟨⟨z0, z1, z2, z3, z4, z5⟩, y0, y1, y2, y3, y4, y5⟩ := six_ready (w := w) hk3
          have lz3 := hk3.lt
          have HS := Lib.hid (vaP_store (w := w) hva hk3 zero_not_bv hbw3 (Nat.le_refl _))
          clear hva hb3 hk3 hbw3 HC
          go_wp2_with fail
          refine bodyPost_ret (v := .tuple #[.agg #[.int .i64 2, .bool n, .slice a l c, .int .u64 0, .string ByteArray.empty, .slice none 0 0], .bool true]) (by simp [results, Tryz.results79, go_sem, z0, z1, z2, z3, z4, z5]) rfl ?_
          exact ⟨n, a, l, c, ByteArray.empty, by rw [HX.out]; rfl, by rw [HX.out]; exact HS.out.1, HS.out.2⟩
  · have HX : Hid (findR false false s p x y = none) := Lib.hid (by unfold findR; rw [hr])
    obtain ⟨hk1, hbw1⟩ := HZ.out w1 hb1
    obtain ⟨⟨z0, z1, z2, z3, z4, z5⟩, y0, y1, y2, y3, y4, y5⟩ := six_ready (w := w) hk1
    have lz1 := hk1.lt
    have HBW1 := Lib.hid hbw1
    clear hb1 hr d0 d4 hk1 hbw1 HA SP HZ SM
    go_wp2_with fail
    refine bodyPost_ret (v := .tuple #[.agg #[.int .i64 0, .bool false, .slice none 0 0, .int .u64 0, .string ByteArray.empty, .slice none 0 0], .bool false]) (by simp [results, Tryz.results79, go_sem, z0, z1, z2, z3, z4, z5]; rfl) rfl ?_
    refine ⟨false, none, 0, 0, ByteArray.empty, by rw [HX.out]; rfl, by rw [HX.out]; exact vaP_non _, ?_⟩
    exact six_below HBW1.out (Nat.le_refl _) _ _ _ _ _ _
set_option maxHeartbeats 6400000 in
theorem found_rindex (s p : ByteArray) (g : Nat) (x y : Scal) (n1 n2 : Bool) (a1 a2 : Option Addr) (l1 c1 l2 c2 : Nat) (t1 t2 : ByteArray) (w : World) (hs : s.size ≤ 60) (hp : p.size ≤ 60) (hA : SArgs w g p x y n1 n2 a1 a2 l1 c1 l2 c2 t1 t2) (px : Pl x) (py : Pl y) :
    Calls Tryz.prog 79 #[.string s, .string ({ data := #[114, 105, 110, 100, 101, 120] } : ByteArray), .slice (some ⟨g, 0, none⟩) 3 3] w (AnsPost (findR false true s p x y) w) := by
  obtain ⟨W0, hW0⟩ : ∃ W0, W0 = w.alloc (.cells #[.int .i64 0, .bool false, .slice none 0 0, .int .u64 0, .string { data := #[] }, .slice none 0 0] 26) := ⟨_, rfl⟩
  have hz : Blk W0 w.heap.size 26 [.int .i64 0, .bool false, .slice none 0 0, .int .u64 0, .string { data := #[] }, .slice none 0 0] := by rw [hW0]; exact blk_zero w
  have hb0 : Below w.heap.size w W0 := by rw [hW0]; exact (Below.refl _ _).alloc (Nat.le_refl _) _
  have SP := Lib.hid (span_any s.size g p x y n1 n2 a1 a2 l1 c1 l2 c2 t1 t2 W0 (by omega) (hA.below hb0) px py)
  have HA : Hid (∀ W, Below w.heap.size w W → SArgs W g p x y n1 n2 a1 a2 l1 c1 l2 c2 t1 t2) := Lib.hid (fun W h => hA.below h)
  have HZ : Hid (∀ W, Below W0.heap.size W0 W → Blk W w.heap.size 26 [.int .i64 0, .bool false, .slice none 0 0, .int .u64 0, .string { data := #[] }, .slice none 0 0] ∧ Below w.heap.size w W) := Lib.hid (fun W h => ⟨hz.below h hz.lt, hb0.trans (h.mono hb0.size)⟩)
  have SM : Hid (∀ (j : Int) (W : World), -1 ≤ j → j ≤ 60 → Calls Tryz.prog 12 #[.int .i64 j] W fun e w' => ∃ q p k' c', e = .returned (.agg #[.bool q, .slice p k' c']) ∧ Below W.heap.size W w' ∧ Hid (Calls Tryz.prog 27 #[.agg #[.bool q, .slice p k' c']] w' fun e w'' => ∃ n a l c, e = .returned (.agg #[.int .i64 2, .bool n, .slice a l c, .int .u64 0, .string ByteArray.empty, .slice none 0 0]) ∧ VaP w'' (.int j) n a l c ByteArray.empty ∧ Below W.heap.size W w'')) := Lib.hid (fun j W h1 h2 => by
    refine (small_any j W (by omega) (by omega)).mono ?_
    rintro e w' ⟨v, rfl, hs, hb⟩
    obtain ⟨q, p, k', c', rfl⟩ := hs.form
    refine ⟨q, p, k', c', rfl, hb, Lib.hid ((intVal_any _ j w' hs (small_lim j (by omega) (by omega))).mono ?_)⟩
    intro e w'' hv
    obtain ⟨n, a, k, c, rfl, hn, hby, hbb⟩ := VaPost.parts hv
    have hva : VaP w'' (.int j) n a k c ByteArray.empty := by subst hn; exact ⟨_, rfl, hby⟩
    exact ⟨n, a, k, c, rfl, hva, hb.trans (hbb.mono hb.size)⟩)
  obtain ⟨d0, d4⟩ := hA.c1
  have lg := hA.1.lt
  have lz := hz.lt
  clear hA px py hb0 hz
  go_enter Tryz.func79, Tryz.ntmps79
  go_wp2_with fail
  rw [← hW0]
  clear hW0
  refine SP.out.mono ?_
  rintro e w1 ⟨hb1, ⟨A, B, hr, rfl⟩ | ⟨hr, rfl⟩⟩
  · obtain ⟨hk1, hbw1⟩ := HZ.out w1 hb1
    obtain ⟨e0, e4⟩ := (HA.out w1 hbw1).c1
    have HE : Hid (findR false true s p x y = if foundAt true s p A B < 0 && !false then none else some (foundAt true s p A B)) := Lib.hid (by unfold findR; rw [hr])
    have hAB : A ≤ s.size ∧ B ≤ s.size := by
      unfold edges at hr
      split at hr
      · simp only [Option.some.injEq, Prod.mk.injEq] at hr
        obtain ⟨rfl, rfl⟩ := hr
        exact ⟨clampE_le _ _, clampE_le _ _⟩
      · cases hr
    have hbdA := foundAt_bd true s p A B hAB.1 hAB.2
    obtain ⟨T, hT⟩ : ∃ T, T = max A B := ⟨_, rfl⟩
    obtain ⟨K, hK⟩ : ∃ K, K = T + 1 - p.size - A := ⟨_, rfl⟩
    have hTs : T ≤ 60 ∧ T ≤ s.size ∧ A ≤ T := by omega
    have HFA : Hid (foundAt true s p A B = lastIn (occB s p) A K) := Lib.hid (by unfold foundAt; rw [hK, hT]; rw [if_pos rfl])
    have HBD : Hid (foundAt true s p A B = -1 ∨ (0 ≤ foundAt true s p A B ∧ foundAt true s p A B ≤ 60)) := Lib.hid (by omega)
    rw [← hT]
    have HK1 := Lib.hid hk1; have HBW1 := Lib.hid hbw1; have HB1 := Lib.hid hb1
    clear hb1 hr d0 d4 hAB hbdA hT hk1 hbw1 HA SP
    go_wp2_with fail
    go_loop [12, 13, 14, 15, 16] (fun a b c d i => ∃ j : Nat, A ≤ j ∧ j ≤ A + K ∧ i = .int .i64 (j : Int) ∧ (∃ F : Int, a = .int .i64 F ∧ Hid (F = firstIn (occB s p) A (j - A))) ∧ (∃ L : Int, b = .int .i64 L ∧ Hid (L = lastIn (occB s p) A (j - A))) ∧ (∃ m : Int, c = .int .i64 m) ∧ (∃ nx : Int, d = .int .i64 nx)) (fun _ _ _ _ i => 61 - (intOf i).toNat)
    case atStart => exact ⟨A, Nat.le_refl _, by omega, rfl, ⟨-1, rfl, Lib.hid (by rw [Nat.sub_self]; rfl)⟩, ⟨-1, rfl, Lib.hid (by rw [Nat.sub_self]; rfl)⟩, ⟨0, rfl⟩, ⟨_, rfl⟩⟩
    case round =>
      obtain ⟨j, hj1, hj2, rfl, ⟨F, rfl, HF⟩, ⟨L, rfl, HL⟩, ⟨m, rfl⟩, nx, rfl⟩ := hrel
      by_cases hlt : j + p.size ≤ T
      · have hjn : j + 1 ≤ A + K := by omega
        have ej : j + 1 - A = (j - A) + 1 := by omega
        have ej2 : A + (j - A) = j := by omega
        have hles : j + p.size ≤ s.size := by omega
        have hj60 : j ≤ 60 := by omega
        cases hocc : occB s p j with
        | false =>
          have ho : ((s.extract j (j + p.size)).toList == p.toList) = false := hocc
          have HF1 : Hid (F = firstIn (occB s p) A (j + 1 - A)) := Lib.hid (by rw [HF.out, ej, firstIn_miss _ _ _ (by rw [ej2]; exact hocc)])
          have HL1 : Hid (L = lastIn (occB s p) A (j + 1 - A)) := Lib.hid (by rw [HL.out, ej, lastIn_miss _ _ _ (by rw [ej2]; exact hocc)])
          clear hocc ej ej2 HF HL
          go_wp2_with fail
          go_round
          case rel => exact ⟨j + 1, by omega, hjn, by go_num, ⟨F, rfl, HF1⟩, ⟨L, rfl, HL1⟩, ⟨m, rfl⟩, ⟨nx, rfl⟩⟩
          case measure => simp [intOf]; omega
        | true =>
          have ho : ((s.extract j (j + p.size)).toList == p.toList) = true := hocc
          have HL1 : Hid ((j : Int) = lastIn (occB s p) A (j + 1 - A)) := Lib.hid (by rw [ej, lastIn_hit _ _ _ (by rw [ej2]; exact hocc), ej2])
          rcases Int.lt_or_le F 0 with hF0 | hF0
          · have HF1 : Hid ((j : Int) = firstIn (occB s p) A (j + 1 - A)) := Lib.hid (by rw [ej, firstIn_hit _ _ _ (by rw [← HF.out]; exact hF0) (by rw [ej2]; exact hocc), ej2])
            clear hocc ej ej2 HF HL
            rcases Int.lt_or_le (j : Int) nx with hnx | hnx
            · go_wp2_with fail
              go_round
              case rel => exact ⟨j + 1, by omega, hjn, by go_num, ⟨_, rfl, HF1⟩, ⟨_, rfl, HL1⟩, ⟨_, rfl⟩, ⟨_, rfl⟩⟩
              case measure => simp [intOf]; omega
            · go_wp2_with fail
              go_round
              case rel => exact ⟨j + 1, by omega, hjn, by go_num, ⟨_, rfl, HF1⟩, ⟨_, rfl, HL1⟩, ⟨_, rfl⟩, ⟨_, rfl⟩⟩
              case measure => simp [intOf]; omega
          · have HF1 : Hid (F = firstIn (occB s p) A (j + 1 - A)) := Lib.hid (by rw [HF.out, ej, firstIn_keep _ _ _ (by rw [← HF.out]; exact hF0)])
            clear hocc ej ej2 HF HL
            rcases Int.lt_or_le (j : Int) nx with hnx | hnx
            · go_wp2_with fail
              go_round
              case rel => exact ⟨j + 1, by omega, hjn, by go_num, ⟨_, rfl, HF1⟩, ⟨_, rfl, HL1⟩, ⟨_, rfl⟩, ⟨_, rfl⟩⟩
              case measure => simp [intOf]; omega
            · go_wp2_with fail
              go_round
              case rel => exact ⟨j + 1, by omega, hjn, by go_num, ⟨_, rfl, HF1⟩, ⟨_, rfl, HL1⟩, ⟨_, rfl⟩, ⟨_, rfl⟩⟩
              case measure => simp [intOf]; omega
      · have ejk : j = A + K := by omega
        have HR : Hid (foundAt true s p A B = L) := Lib.hid (by rw [HFA.out, HL.out, ejk, Nat.add_sub_cancel_left])
        have HBD1 : Hid (L = -1 ∨ (0 ≤ L ∧ L ≤ 60)) := Lib.hid (by rw [← HR.out]; exact HBD.out)
        clear ejk HFA HF HL HBD e4
        obtain ⟨⟨z0, z1, z2, z3, z4, z5⟩, y0, y1, y2, y3, y4, y5⟩ := six_ready (w := w) HK1.out
        have lz1 := HK1.out.lt
        rcases Int.lt_or_le L 0 with hneg | hpos
        · have hm1 : L = -1 := by have := HBD1.out; omega
          subst hm1
          have HX : Hid (findR false true s p x y = none) := Lib.hid (by rw [HE.out, HR.out]; simp)
          clear HE HR HBD1
          go_wp2_with fail
          refine bodyPost_ret (v := .tuple #[.agg #[.int .i64 0, .bool false, .slice none 0 0, .int .u64 0, .string ByteArray.empty, .slice none 0 0], .bool false]) (by simp [results, Tryz.results79, go_sem, z0, z1, z2, z3, z4, z5]; rfl) rfl ?_
          refine ⟨false, none, 0, 0, ByteArray.empty, by rw [HX.out]; rfl, by rw [HX.out]; exact vaP_non _, ?_⟩
          exact six_below HBW1.out (Nat.le_refl _) _ _ _ _ _ _
        · have hle : L ≤ 60 := by have := HBD1.out; omega
          have hge : -1 ≤ L := by omega
          have HX : Hid (findR false true s p x y = some L) := Lib.hid (by
            rw [HE.out, HR.out]
            have h0 : decide (L < 0) = false := by simp; omega
            rw [if_neg (by simp [h0])])
          have HLE := Lib.hid hle; have HGE := Lib.hid hge
          clear HE HR HBD1 z0 z1 z2 z3 z4 z5 y0 y1 y2 y3 y4 y5 hle hge
          go_wp2_with fail
          refine (SM.out L _ HGE.out HLE.out).mono ?_
          rintro e w2 ⟨q, q2, q3, q4, rfl, hb2, hc⟩
          have HC := hc
          clear hc hb2
          go_wp2_with fail
          refine HC.out.mono ?_
          rintro e w3 ⟨n, a, l, c, rfl, hva, hb3⟩
          obtain ⟨hk3, hbw3⟩ := HZ.out w3 (HB1.out.trans (hb3.mono HB1.out.size))
          obtain ⟨⟨z0, z1, z2, z3, z4, z5⟩, y0, y1, y2, y3, y4, y5⟩ := six_ready (w := w) hk3
          have lz3 := hk3.lt
          have HS := Lib.hid (vaP_store (w := w) hva hk3 zero_not_bv hbw3 (Nat.le_refl _))
          clear hva hb3 hk3 hbw3 HC
          go_wp2_with fail
          refine bodyPost_ret (v := .tuple #[.agg #[.int .i64 2, .bool n, .slice a l c, .int .u64 0, .string ByteArray.empty, .slice none 0 0], .bool true]) (by simp [results, Tryz.results79, go_sem, z0, z1, z2, z3, z4, z5]) rfl ?_
          exact ⟨n, a, l, c, ByteArray.empty, by rw [HX.out]; rfl, by rw [HX.out]; exact HS.out.1, HS.out.2⟩
  · have HX : Hid (findR false true s p x y = none) := Lib.hid (by unfold findR; rw [hr])
    obtain ⟨hk1, hbw1⟩ := HZ.out w1 hb1
    obtain ⟨⟨z0, z1, z2, z3, z4, z5⟩, y0, y1, y2, y3, y4, y5⟩ := six_ready (w := w) hk1
    have lz1 := hk1.lt
    have HBW1 := Lib.hid hbw1
    clear hb1 hr d0 d4 hk1 hbw1 HA SP HZ SM
    go_wp2_with fail
    refine bodyPost_ret (v := .tuple #[.agg #[.int .i64 0, .bool false, .slice none 0 0, .int .u64 0, .string ByteArray.empty, .slice none 0 0], .bool false]) (by simp [results, Tryz.results79, go_sem, z0, z1, z2, z3, z4, z5]; rfl) rfl ?_
    refine ⟨false, none, 0, 0, ByteArray.empty, by rw [HX.out]; rfl, by rw [HX.out]; exact vaP_non _, ?_⟩
    exact six_below HBW1.out (Nat.le_refl _) _ _ _ _ _ _
end Go.Proofs.YtoggalnjjhcmkaaGreat

namespace Go.Proofs.YtoggalnjjhcmkaaGreat
open Go.RowKit Dig
set_option linter.unusedVariables false
set_option linter.unusedSimpArgs false
set_option maxRecDepth 100000

/-- what the reference answers to a question -/
def AskPost (r : Option Int) (w : World) (e : Ending) (w' : World) : Prop :=
  ∃ n a l c t, e = .returned (.tuple #[.agg #[.int .i64 (ansS r).kind, .bool n, .slice a l c, .int .u64 0, .string t, .slice none 0 0], .slice none 0 0, .bool r.isSome]) ∧ VaP w' (ansS r) n a l c t ∧ Below w.heap.size w w'
set_option maxHeartbeats 1600000 in
theorem numberAns_any (x : Scal) (n : Bool) (a : Option Addr) (l c : Nat) (t : ByteArray) (w : World) (h : VaP w x n a l c t) (hx : Pl x) :
    Calls Tryz.prog 9 #[.agg #[.int .i64 x.kind, .bool n, .slice a l c, .int .u64 0, .string t, .slice none 0 0]] w fun e w' => e = .returned (.int .i64 (nI x)) ∧ Below w.heap.size w w' := by
  have hb1 : Below w.heap.size w (w.alloc (.cells #[.int .i64 x.kind, .bool n, .slice a l c, .int .u64 0, .string t, .slice none 0 0] 26)) := (Below.refl _ _).alloc (Nat.le_refl _) _
  have C := Lib.hid (numInt_any x n a l c t _ (h.below hb1) hx)
  have HB1 := Lib.hid hb1
  clear h hb1 hx
  generalize nI x = i at *
  generalize x.kind = k at *
  go_enter Tryz.func9, Tryz.ntmps9
  go_wp2_with fail
  refine C.out.mono ?_
  rintro e w1 ⟨q, p, k2, d, rfl, hb1, hc⟩
  have D := Lib.hid hc
  clear hb1 hc C
  go_wp2_with fail
  refine D.out.mono ?_
  rintro e w2 ⟨rfl, hb3⟩
  have HB3 := Lib.hid (HB1.out.trans (hb3.mono HB1.out.size))
  clear hb3 D
  go_wp2_with fail
  go_ret
  exact ⟨rfl, HB3.out⟩
set_option maxHeartbeats 3200000 in
theorem textM_find (s p : ByteArray) (g : Nat) (x y : Scal) (n1 n2 : Bool) (a1 a2 : Option Addr) (l1 c1 l2 c2 : Nat) (t1 t2 : ByteArray) (w : World) (hs : s.size ≤ 60) (hp : p.size ≤ 60) (hA : SArgs w g p x y n1 n2 a1 a2 l1 c1 l2 c2 t1 t2) (px : Pl x) (py : Pl y) :
    Calls Tryz.prog 48 #[.string s, .string ({ data := #[102, 105, 110, 100] } : ByteArray), .slice (some ⟨g, 0, none⟩) 3 3] w (AnsPost (findR true false s p x y) w) := by
  obtain ⟨W0, hW0⟩ : ∃ W0, W0 = w.alloc (.cells #[.int .i64 0, .bool false, .slice none 0 0, .int .u64 0, .string { data := #[] }, .slice none 0 0] 26) := ⟨_, rfl⟩
  have hz : Blk W0 w.heap.size 26 [.int .i64 0, .bool false, .slice none 0 0, .int .u64 0, .string { data := #[] }, .slice none 0 0] := by rw [hW0]; exact blk_zero w
  have hb0 : Below w.heap.size w W0 := by rw [hW0]; exact (Below.refl _ _).alloc (Nat.le_refl _) _
  have C : Hid (Calls Tryz.prog 79 #[.string s, .string ({ data := #[102, 105, 110, 100] } : ByteArray), .slice (some ⟨g, 0, none⟩) 3 3] W0 fun e w' => ∃ n a l c t, e = .returned (.tuple #[.agg #[.int .i64 (ansS (findR true false s p x y)).kind, .bool n, .slice a l c, .int .u64 0, .string t, .slice none 0 0], .bool (findR true false s p x y).isSome]) ∧ VaP w' (ansS (findR true false s p x y)) n a l c t ∧ Blk w' w.heap.size 26 [.int .i64 0, .bool false, .slice none 0 0, .int .u64 0, .string { data := #[] }, .slice none 0 0] ∧ Below w.heap.size w w') := Lib.hid ((found_find s p g x y n1 n2 a1 a2 l1 c1 l2 c2 t1 t2 W0 hs hp (hA.below hb0) px py).mono (by
    rintro e w' ⟨n, a, l, c, t, rfl, hv, hb⟩
    exact ⟨n, a, l, c, t, rfl, hv, hz.below hb hz.lt, hb0.trans (hb.mono hb0.size)⟩))
  clear hA px py hb0 hz hs hp
  generalize findR true false s p x y = r at *
  generalize hz : ansS r = z at *
  obtain ⟨kd, hkd⟩ : ∃ kd, kd = z.kind := ⟨_, rfl⟩
  obtain ⟨ok, hok⟩ : ∃ ok, ok = r.isSome := ⟨_, rfl⟩
  rw [← hkd, ← hok] at C
  have HZ := Lib.hid hz; have HK := Lib.hid hkd; have HO := Lib.hid hok
  clear hz hkd hok
  go_enter Tryz.func48, Tryz.ntmps48
  go_wp2_with fail
  rw [← hW0]
  clear hW0
  refine C.out.mono ?_
  rintro e w1 ⟨n, a, l, c, t, rfl, hv, hk, hb⟩
  obtain ⟨⟨z0, z1, z2, z3, z4, z5⟩, y0, y1, y2, y3, y4, y5⟩ := six_ready (w := w) hk
  have lz := hk.lt
  have hS := vaP_store (w := w) hv hk zero_not_bv hb (Nat.le_refl _)
  have hk2 := six_set hk (.int .i64 z.kind) (.bool n) (.slice a l c) (.int .u64 0) (.string t) (.slice none 0 0)
  rw [← HK.out] at hS hk2
  have HS := Lib.hid hS
  clear hv hk hb C hS hk2
  go_wp2_with fail
  refine bodyPost_ret (v := .tuple #[.agg #[.int .i64 kd, .bool n, .slice a l c, .int .u64 0, .string t, .slice none 0 0], .bool ok]) (by simp [results, Tryz.results48, go_sem, z0, z1, z2, z3, z4, z5]) rfl ?_
  exact ⟨n, a, l, c, t, by rw [HK.out, HO.out, HZ.out], by rw [HZ.out]; exact HS.out.1, HS.out.2⟩
set_option maxHeartbeats 3200000 in
theorem asked_find (s p : ByteArray) (g : Nat) (x y : Scal) (n1 n2 : Bool) (a1 a2 : Option Addr) (l1 c1 l2 c2 : Nat) (t1 t2 : ByteArray) (w : World) (hs : s.size ≤ 60) (hp : p.size ≤ 60) (hA : SArgs w g p x y n1 n2 a1 a2 l1 c1 l2 c2 t1 t2) (px : Pl x) (py : Pl y) :
    Calls Tryz.prog 21 #[.string s, .string ({ data := #[102, 105, 110, 100] } : ByteArray), .slice (some ⟨g, 0, none⟩) 3 3] w (AskPost (findR true false s p x y) w) := by
  obtain ⟨W0, hW0⟩ : ∃ W0, W0 = w.alloc (.cells #[.int .i64 0, .bool false, .slice none 0 0, .int .u64 0, .string { data := #[] }, .slice none 0 0] 26) := ⟨_, rfl⟩
  have hz : Blk W0 w.heap.size 26 [.int .i64 0, .bool false, .slice none 0 0, .int .u64 0, .string { data := #[] }, .slice none 0 0] := by rw [hW0]; exact blk_zero w
  have hb0 : Below w.heap.size w W0 := by rw [hW0]; exact (Below.refl _ _).alloc (Nat.le_refl _) _
  have C : Hid (Calls Tryz.prog 48 #[.string s, .string ({ data := #[102, 105, 110, 100] } : ByteArray), .slice (some ⟨g, 0, none⟩) 3 3] W0 fun e w' => ∃ n a l c t, e = .returned (.tuple #[.agg #[.int .i64 (ansS (findR true false s p x y)).kind, .bool n, .slice a l c, .int .u64 0, .string t, .slice none 0 0], .bool (findR true false s p x y).isSome]) ∧ VaP w' (ansS (findR true false s p x y)) n a l c t ∧ Blk w' w.heap.size 26 [.int .i64 0, .bool false, .slice none 0 0, .int .u64 0, .string { data := #[] }, .slice none 0 0] ∧ Below w.heap.size w w') := Lib.hid ((textM_find s p g x y n1 n2 a1 a2 l1 c1 l2 c2 t1 t2 W0 hs hp (hA.below hb0) px py).mono (by
    rintro e w' ⟨n, a, l, c, t, rfl, hv, hb⟩
    exact ⟨n, a, l, c, t, rfl, hv, hz.below hb hz.lt, hb0.trans (hb.mono hb0.size)⟩))
  clear hA px py hb0 hz hs hp
  generalize findR true false s p x y = r at *
  generalize hz : ansS r = z at *
  obtain ⟨kd, hkd⟩ : ∃ kd, kd = z.kind := ⟨_, rfl⟩
  obtain ⟨ok, hok⟩ : ∃ ok, ok = r.isSome := ⟨_, rfl⟩
  rw [← hkd, ← hok] at C
  have HZ := Lib.hid hz; have HK := Lib.hid hkd; have HO := Lib.hid hok
  clear hz hkd hok
  go_enter Tryz.func21, Tryz.ntmps21
  go_wp2_with fail
  rw [← hW0]
  clear hW0
  refine C.out.mono ?_
  rintro e w1 ⟨n, a, l, c, t, rfl, hv, hk, hb⟩
  obtain ⟨⟨z0, z1, z2, z3, z4, z5⟩, y0, y1, y2, y3, y4, y5⟩ := six_ready (w := w) hk
  have lz := hk.lt
  have hS := vaP_store (w := w) hv hk zero_not_bv hb (Nat.le_refl _)
  have hk2 := six_set hk (.int .i64 z.kind) (.bool n) (.slice a l c) (.int .u64 0) (.string t) (.slice none 0 0)
  rw [← HK.out] at hS hk2
  have HS := Lib.hid hS; have HK2 := Lib.hid hk2
  clear hv hk hb C hS hk2
  go_wp2_with fail
  generalize ((((((w1.setCell ⟨w.heap.size, 0, none⟩ (.int .i64 kd)).setCell ⟨w.heap.size, 1, none⟩ (.bool n)).setCell ⟨w.heap.size, 2, none⟩ (.slice a l c)).setCell ⟨w.heap.size, 3, none⟩ (.int .u64 0)).setCell ⟨w.heap.size, 4, none⟩ (.string t)).setCell ⟨w.heap.size, 5, none⟩ (.slice none 0 0)) = W2 at *
  clear z0 z1 z2 z3 z4 z5 y0 y1 y2 y3 y4 y5 lz
  obtain ⟨⟨z0, z1, z2, z3, z4, z5⟩, y0, y1, y2, y3, y4, y5⟩ := six_ready (w := w) HK2.out
  have lz := lt_of_cell z0
  have hS3 : Hid (VaP ((((((W2.setCell ⟨w.heap.size, 0, none⟩ (.int .i64 kd)).setCell ⟨w.heap.size, 1, none⟩ (.bool n)).setCell ⟨w.heap.size, 2, none⟩ (.slice a l c)).setCell ⟨w.heap.size, 3, none⟩ (.int .u64 0)).setCell ⟨w.heap.size, 4, none⟩ (.string t)).setCell ⟨w.heap.size, 5, none⟩ (.slice none 0 0)) z n a l c t) := Lib.hid (by
    have := (vaP_store (w := w) HS.out.1 HK2.out (by
      intro u hu m
      simp only [List.mem_cons, List.mem_nil_iff, or_false] at hu
      rcases hu with rfl | rfl | rfl | rfl | rfl | rfl <;> simp [bv]) HS.out.2 (Nat.le_refl _)).1
    rwa [← HK.out] at this)
  have HB3 := Lib.hid HS.out.2
  go_loop [7, 21] (fun r i => r = .slice none 0 0 ∧ i = .int .i64 0) (fun _ _ => 0)
  case atStart => exact ⟨rfl, rfl⟩
  case round =>
    obtain ⟨rfl, rfl⟩ := hrel
    clear HS HK2
    go_wp2_with fail
    refine bodyPost_ret (v := .tuple #[.agg #[.int .i64 kd, .bool n, .slice a l c, .int .u64 0, .string t, .slice none 0 0], .slice none 0 0, .bool ok]) (by simp [results, Tryz.results21, go_sem, z0, z1, z2, z3, z4, z5]) rfl ?_
    exact ⟨n, a, l, c, t, by rw [HK.out, HO.out, HZ.out], by rw [HZ.out]; exact hS3.out, six_below HB3.out (Nat.le_refl _) _ _ _ _ _ _⟩
set_option maxHeartbeats 3200000 in
theorem textM_rfind (s p : ByteArray) (g : Nat) (x y : Scal) (n1 n2 : Bool) (a1 a2 : Option Addr) (l1 c1 l2 c2 : Nat) (t1 t2 : ByteArray) (w : World) (hs : s.size ≤ 60) (hp : p.size ≤ 60) (hA : SArgs w g p x y n1 n2 a1 a2 l1 c1 l2 c2 t1 t2) (px : Pl x) (py : Pl y) :
    Calls Tryz.prog 48 #[.string s, .string ({ data := #[114, 102, 105, 110, 100] } : ByteArray), .slice (some ⟨g, 0, none⟩) 3 3] w (AnsPost (findR true true s p x y) w) := by
  obtain ⟨W0, hW0⟩ : ∃ W0, W0 = w.alloc (.cells #[.int .i64 0, .bool false, .slice none 0 0, .int .u64 0, .string { data := #[] }, .slice none 0 0] 26) := ⟨_, rfl⟩
  have hz : Blk W0 w.heap.size 26 [.int .i64 0, .bool false, .slice none 0 0, .int .u64 0, .string { data := #[] }, .slice none 0 0] := by rw [hW0]; exact blk_zero w
  have hb0 : Below w.heap.size w W0 := by rw [hW0]; exact (Below.refl _ _).alloc (Nat.le_refl _) _
  have C : Hid (Calls Tryz.prog 79 #[.string s, .string ({ data := #[114, 102, 105, 110, 100] } : ByteArray), .slice (some ⟨g, 0, none⟩) 3 3] W0 fun e w' => ∃ n a l c t, e = .returned (.tuple #[.agg #[.int .i64 (ansS (findR true true s p x y)).kind, .bool n, .slice a l c, .int .u64 0, .string t, .slice none 0 0], .bool (findR true true s p x y).isSome]) ∧ VaP w' (ansS (findR true true s p x y)) n a l c t ∧ Blk w' w.heap.size 26 [.int .i64 0, .bool false, .slice none 0 0, .int .u64 0, .string { data := #[] }, .slice none 0 0] ∧ Below w.heap.size w w') := Lib.hid ((found_rfind s p g x y n1 n2 a1 a2 l1 c1 l2 c2 t1 t2 W0 hs hp (hA.below hb0) px py).mono (by
    rintro e w' ⟨n, a, l, c, t, rfl, hv, hb⟩
    exact ⟨n, a, l, c, t, rfl, hv, hz.below hb hz.lt, hb0.trans (hb.mono hb0.size)⟩))
  clear hA px py hb0 hz hs hp
  generalize findR true true s p x y = r at *
  generalize hz : ansS r = z at *
  obtain ⟨kd, hkd⟩ : ∃ kd, kd = z.kind := ⟨_, rfl⟩
  obtain ⟨ok, hok⟩ : ∃ ok, ok = r.isSome := ⟨_, rfl⟩
  rw [← hkd, ← hok] at C
  have HZ := Lib.hid hz; have HK := Lib.hid hkd; have HO := Lib.hid hok
  clear hz hkd hok
  go_enter Tryz.func48, Tryz.ntmps48
  go_wp2_with fail
  rw [← hW0]
  clear hW0
  refine C.out.mono ?_
  rintro e w1 ⟨n, a, l, c, t, rfl, hv, hk, hb⟩
  obtain ⟨⟨z0, z1, z2, z3, z4, z5⟩, y0, y1, y2, y3, y4, y5⟩ := six_ready (w := w) hk
  have lz := hk.lt
  have hS := vaP_store (w := w) hv hk zero_not_bv hb (Nat.le_refl _)
  have hk2 := six_set hk (.int .i64 z.kind) (.bool n) (.slice a l c) (.int .u64 0) (.string t) (.slice none 0 0)
  rw [← HK.out] at hS hk2
  have HS := Lib.hid hS
  clear hv hk hb C hS hk2
  go_wp2_with fail
  refine bodyPost_ret (v := .tuple #[.agg #[.int .i64 kd, .bool n, .slice a l c, .int .u64 0, .string t, .slice none 0 0], .bool ok]) (by simp [results, Tryz.results48, go_sem, z0, z1, z2, z3, z4, z5]) rfl ?_
  exact ⟨n, a, l, c, t, by rw [HK.out, HO.out, HZ.out], by rw [HZ.out]; exact HS.out.1, HS.out.2⟩
set_option maxHeartbeats 3200000 in
theorem asked_rfind (s p : ByteArray) (g : Nat) (x y : Scal) (n1 n2 : Bool) (a1 a2 : Option Addr) (l1 c1 l2 c2 : Nat) (t1 t2 : ByteArray) (w : World) (hs : s.size ≤ 60) (hp : p.size ≤ 60) (hA : SArgs w g p x y n1 n2 a1 a2 l1 c1 l2 c2 t1 t2) (px : Pl x) (py : Pl y) :
    Calls Tryz.prog 21 #[.string s, .string ({ data := #[114, 102, 105, 110, 100] } : ByteArray), .slice (some ⟨g, 0, none⟩) 3 3] w (AskPost (findR true true s p x y) w) := by
  obtain ⟨W0, hW0⟩ : ∃ W0, W0 = w.alloc (.cells #[.int .i64 0, .bool false, .slice none 0 0, .int .u64 0, .string { data := #[] }, .slice none 0 0] 26) := ⟨_, rfl⟩
  have hz : Blk W0 w.heap.size 26 [.int .i64 0, .bool false, .slice none 0 0, .int .u64 0, .string { data := #[] }, .slice none 0 0] := by rw [hW0]; exact blk_zero w
  have hb0 : Below w.heap.size w W0 := by rw [hW0]; exact (Below.refl _ _).alloc (Nat.le_refl _) _
  have C : Hid (Calls Tryz.prog 48 #[.string s, .string ({ data := #[114, 102, 105, 110, 100] } : ByteArray), .slice (some ⟨g, 0, none⟩) 3 3] W0 fun e w' => ∃ n a l c t, e = .returned (.tuple #[.agg #[.int .i64 (ansS (findR true true s p x y)).kind, .bool n, .slice a l c, .int .u64 0, .string t, .slice none 0 0], .bool (findR true true s p x y).isSome]) ∧ VaP w' (ansS (findR true true s p x y)) n a l c t ∧ Blk w' w.heap.size 26 [.int .i64 0, .bool false, .slice none 0 0, .int .u64 0, .string { data := #[] }, .slice none 0 0] ∧ Below w.heap.size w w') := Lib.hid ((textM_rfind s p g x y n1 n2 a1 a2 l1 c1 l2 c2 t1 t2 W0 hs hp (hA.below hb0) px py).mono (by
    rintro e w' ⟨n, a, l, c, t, rfl, hv, hb⟩
    exact ⟨n, a, l, c, t, rfl, hv, hz.below hb hz.lt, hb0.trans (hb.mono hb0.size)⟩))
  clear hA px py hb0 hz hs hp
  generalize findR true true s p x y = r at *
  generalize hz : ansS r = z at *
  obtain ⟨kd, hkd⟩ : ∃ kd, kd = z.kind := ⟨_, rfl⟩
  obtain ⟨ok, hok⟩ : ∃ ok, ok = r.isSome := ⟨_, rfl⟩
  rw [← hkd, ← hok] at C
  have HZ := Lib.hid hz; have HK := Lib.hid hkd; have HO := Lib.hid hok
  clear hz hkd hok
  go_enter Tryz.func21, Tryz.ntmps21
  go_wp2_with fail
  rw [← hW0]
  clear hW0
  refine C.out.mono ?_
  rintro e w1 ⟨n, a, l, c, t, rfl, hv, hk, hb⟩
  obtain ⟨⟨z0, z1, z2, z3, z4, z5⟩, y0, y1, y2, y3, y4, y5⟩ := six_ready (w := w) hk
  have lz := hk.lt
  have hS := vaP_store (w := w) hv hk zero_not_bv hb (Nat.le_refl _)
  have hk2 := six_set hk (.int .i64 z.kind) (.bool n) (.slice a l c) (.int .u64 0) (.string t) (.slice none 0 0)
  rw [← HK.out] at hS hk2
  have HS := Lib.hid hS; have HK2 := Lib.hid hk2
  clear hv hk hb C hS hk2
  go_wp2_with fail
  generalize ((((((w1.setCell ⟨w.heap.size, 0, none⟩ (.int .i64 kd)).setCell ⟨w.heap.size, 1, none⟩ (.bool n)).setCell ⟨w.heap.size, 2, none⟩ (.slice a l c)).setCell ⟨w.heap.size, 3, none⟩ (.int .u64 0)).setCell ⟨w.heap.size, 4, none⟩ (.string t)).setCell ⟨w.heap.size, 5, none⟩ (.slice none 0 0)) = W2 at *
  clear z0 z1 z2 z3 z4 z5 y0 y1 y2 y3 y4 y5 lz
  obtain ⟨⟨z0, z1, z2, z3, z4, z5⟩, y0, y1, y2, y3, y4, y5⟩ := six_ready (w := w) HK2.out
  have lz := lt_of_cell z0
  have hS3 : Hid (VaP ((((((W2.setCell ⟨w.heap.size, 0, none⟩ (.int .i64 kd)).setCell ⟨w.heap.size, 1, none⟩ (.bool n)).setCell ⟨w.heap.size, 2, none⟩ (.slice a l c)).setCell ⟨w.heap.size, 3, none⟩ (.int .u64 0)).setCell ⟨w.heap.size, 4, none⟩ (.string t)).setCell ⟨w.heap.size, 5, none⟩ (.slice none 0 0)) z n a l c t) := Lib.hid (by
    have := (vaP_store (w := w) HS.out.1 HK2.out (by
      intro u hu m
      simp only [List.mem_cons, List.mem_nil_iff, or_false] at hu
      rcases hu with rfl | rfl | rfl | rfl | rfl | rfl <;> simp [bv]) HS.out.2 (Nat.le_refl _)).1
    rwa [← HK.out] at this)
  have HB3 := Lib.hid HS.out.2
  go_loop [7, 21] (fun r i => r = .slice none 0 0 ∧ i = .int .i64 0) (fun _ _ => 0)
  case atStart => exact ⟨rfl, rfl⟩
  case round =>
    obtain ⟨rfl, rfl⟩ := hrel
    clear HS HK2
    go_wp2_with fail
    refine bodyPost_ret (v := .tuple #[.agg #[.int .i64 kd, .bool n, .slice a l c, .int .u64 0, .string t, .slice none 0 0], .slice none 0 0, .bool ok]) (by simp [results, Tryz.results21, go_sem, z0, z1, z2, z3, z4, z5]) rfl ?_
    exact ⟨n, a, l, c, t, by rw [HK.out, HO.out, HZ.out], by rw [HZ.out]; exact hS3.out, six_below HB3.out (Nat.le_refl _) _ _ _ _ _ _⟩
set_option maxHeartbeats 3200000 in
theorem textM_index (s p : ByteArray) (g : Nat) (x y : Scal) (n1 n2 : Bool) (a1 a2 : Option Addr) (l1 c1 l2 c2 : Nat) (t1 t2 : ByteArray) (w : World) (hs : s.size ≤ 60) (hp : p.size ≤ 60) (hA : SArgs w g p x y n1 n2 a1 a2 l1 c1 l2 c2 t1 t2) (px : Pl x) (py : Pl y) :
    Calls Tryz.prog 48 #[.string s, .string ({ data := #[105, 110, 100, 101, 120] } : ByteArray), .slice (some ⟨g, 0, none⟩) 3 3] w (AnsPost (findR false false s p x y) w) := by
  obtain ⟨W0, hW0⟩ : ∃ W0, W0 = w.alloc (.cells #[.int .i64 0, .bool false, .slice none 0 0, .int .u64 0, .string { data := #[] }, .slice none 0 0] 26) := ⟨_, rfl⟩
  have hz : Blk W0 w.heap.size 26 [.int .i64 0, .bool false, .slice none 0 0, .int .u64 0, .string { data := #[] }, .slice none 0 0] := by rw [hW0]; exact blk_zero w
  have hb0 : Below w.heap.size w W0 := by rw [hW0]; exact (Below.refl _ _).alloc (Nat.le_refl _) _
  have C : Hid (Calls Tryz.prog 79 #[.string s, .string ({ data := #[105, 110, 100, 101, 120] } : ByteArray), .slice (some ⟨g, 0, none⟩) 3 3] W0 fun e w' => ∃ n a l c t, e = .returned (.tuple #[.agg #[.int .i64 (ansS (findR false false s p x y)).kind, .bool n, .slice a l c, .int .u64 0, .string t, .slice none 0 0], .bool (findR false false s p x y).isSome]) ∧ VaP w' (ansS (findR false false s p x y)) n a l c t ∧ Blk w' w.heap.size 26 [.int .i64 0, .bool false, .slice none 0 0, .int .u64 0, .string { data := #[] }, .slice none 0 0] ∧ Below w.heap.size w w') := Lib.hid ((found_index s p g x y n1 n2 a1 a2 l1 c1 l2 c2 t1 t2 W0 hs hp (hA.below hb0) px py).mono (by
    rintro e w' ⟨n, a, l, c, t, rfl, hv, hb⟩
    exact ⟨n, a, l, c, t, rfl, hv, hz.below hb hz.lt, hb0.trans (hb.mono hb0.size)⟩))
  clear hA px py hb0 hz hs hp
  generalize findR false false s p x y = r at *
  generalize hz : ansS r = z at *
  obtain ⟨kd, hkd⟩ : ∃ kd, kd = z.kind := ⟨_, rfl⟩
  obtain ⟨ok, hok⟩ : ∃ ok, ok = r.isSome := ⟨_, rfl⟩
  rw [← hkd, ← hok] at C
  have HZ := Lib.hid hz; have HK := Lib.hid hkd; have HO := Lib.hid hok
  clear hz hkd hok
  go_enter Tryz.func48, Tryz.ntmps48
  go_wp2_with fail
  rw [← hW0]
  clear hW0
  refine C.out.mono ?_
  rintro e w1 ⟨n, a, l, c, t, rfl, hv, hk, hb⟩
  obtain ⟨⟨z0, z1, z2, z3, z4, z5⟩, y0, y1, y2, y3, y4, y5⟩ := six_ready (w := w) hk
  have lz := hk.lt
  have hS := vaP_store (w := w) hv hk zero_not_bv hb (Nat.le_refl _)
  have hk2 := six_set hk (.int .i64 z.kind) (.bool n) (.slice a l c) (.int .u64 0) (.string t) (.slice none 0 0)
  rw [← HK.out] at hS hk2
  have HS := Lib.hid hS
  clear hv hk hb C hS hk2
  go_wp2_with fail
  refine bodyPost_ret (v := .tuple #[.agg #[.int .i64 kd, .bool n, .slice a l c, .int .u64 0, .string t, .slice none 0 0], .bool ok]) (by simp [results, Tryz.results48, go_sem, z0, z1, z2, z3, z4, z5]) rfl ?_
  exact ⟨n, a, l, c, t, by rw [HK.out, HO.out, HZ.out], by rw [HZ.out]; exact HS.out.1, HS.out.2⟩
set_option maxHeartbeats 3200000 in
theorem asked_index (s p : ByteArray) (g : Nat) (x y : Scal) (n1 n2 : Bool) (a1 a2 : Option Addr) (l1 c1 l2 c2 : Nat) (t1 t2 : ByteArray) (w : World) (hs : s.size ≤ 60) (hp : p.size ≤ 60) (hA : SArgs w g p x y n1 n2 a1 a2 l1 c1 l2 c2 t1 t2) (px : Pl x) (py : Pl y) :
    Calls Tryz.prog 21 #[.string s, .string ({ data := #[105, 110, 100, 101, 120] } : ByteArray), .slice (some ⟨g, 0, none⟩) 3 3] w (AskPost (findR false false s p x y) w) := by
  obtain ⟨W0, hW0⟩ : ∃ W0, W0 = w.alloc (.cells #[.int .i64 0, .bool false, .slice none 0 0, .int .u64 0, .string { data := #[] }, .slice none 0 0] 26) := ⟨_, rfl⟩
  have hz : Blk W0 w.heap.size 26 [.int .i64 0, .bool false, .slice none 0 0, .int .u64 0, .string { data := #[] }, .slice none 0 0] := by rw [hW0]; exact blk_zero w
  have hb0 : Below w.heap.size w W0 := by rw [hW0]; exact (Below.refl _ _).alloc (Nat.le_refl _) _
  have C : Hid (Calls Tryz.prog 48 #[.string s, .string ({ data := #[105, 110, 100, 101, 120] } : ByteArray), .slice (some ⟨g, 0, none⟩) 3 3] W0 fun e w' => ∃ n a l c t, e = .returned (.tuple #[.agg #[.int .i64 (ansS (findR false false s p x y)).kind, .bool n, .slice a l c, .int .u64 0, .string t, .slice none 0 0], .bool (findR false false s p x y).isSome]) ∧ VaP w' (ansS (findR false false s p x y)) n a l c t ∧ Blk w' w.heap.size 26 [.int .i64 0, .bool false, .slice none 0 0, .int .u64 0, .string { data := #[] }, .slice none 0 0] ∧ Below w.heap.size w w') := Lib.hid ((textM_index s p g x y n1 n2 a1 a2 l1 c1 l2 c2 t1 t2 W0 hs hp (hA.below hb0) px py).mono (by
    rintro e w' ⟨n, a, l, c, t, rfl, hv, hb⟩
    exact ⟨n, a, l, c, t, rfl, hv, hz.below hb hz.lt, hb0.trans (hb.mono hb0.size)⟩))
  clear hA px py hb0 hz hs hp
  generalize findR false false s p x y = r at *
  generalize hz : ansS r = z at *
  obtain ⟨kd, hkd⟩ : ∃ kd, kd = z.kind := ⟨_, rfl⟩
  obtain ⟨ok, hok⟩ : ∃ ok, ok = r.isSome := ⟨_, rfl⟩
  rw [← hkd, ← hok] at C
  have HZ := Lib.hid hz; have HK := Lib.hid hkd; have HO := Lib.hid hok
  clear hz hkd hok
  go_enter Tryz.func21, Tryz.ntmps21
  go_wp2_with fail
  rw [← hW0]
  clear hW0
  refine C.out.mono ?_
  rintro e w1 ⟨n, a, l, c, t, rfl, hv, hk, hb⟩
  obtain ⟨⟨z0, z1, z2, z3, z4, z5⟩, y0, y1, y2, y3, y4, y5⟩ := six_ready (w := w) hk
  have lz := hk.lt
  have hS := vaP_store (w := w) hv hk zero_not_bv hb (Nat.le_refl _)
  have hk2 := six_set hk (.int .i64 z.kind) (.bool n) (.slice a l c) (.int .u64 0) (.string t) (.slice none 0 0)
  rw [← HK.out] at hS hk2
  have HS := Lib.hid hS; have HK2 := Lib.hid hk2
  clear hv hk hb C hS hk2
  go_wp2_with fail
  generalize ((((((w1.setCell ⟨w.heap.size, 0, none⟩ (.int .i64 kd)).setCell ⟨w.heap.size, 1, none⟩ (.bool n)).setCell ⟨w.heap.size, 2, none⟩ (.slice a l c)).setCell ⟨w.heap.size, 3, none⟩ (.int .u64 0)).setCell ⟨w.heap.size, 4, none⟩ (.string t)).setCell ⟨w.heap.size, 5, none⟩ (.slice none 0 0)) = W2 at *
  clear z0 z1 z2 z3 z4 z5 y0 y1 y2 y3 y4 y5 lz
  obtain ⟨⟨z0, z1, z2, z3, z4, z5⟩, y0, y1, y2, y3, y4, y5⟩ := six_ready (w := w) HK2.out
  have lz := lt_of_cell z0
  have hS3 : Hid (VaP ((((((W2.setCell ⟨w.heap.size, 0, none⟩ (.int .i64 kd)).setCell ⟨w.heap.size, 1, none⟩ (.bool n)).setCell ⟨w.heap.size, 2, none⟩ (.slice a l c)).setCell ⟨w.heap.size, 3, none⟩ (.int .u64 0)).setCell ⟨w.heap.size, 4, none⟩ (.string t)).setCell ⟨w.heap.size, 5, none⟩ (.slice none 0 0)) z n a l c t) := Lib.hid (by
    have := (vaP_store (w := w) HS.out.1 HK2.out (by
      intro u hu m
      simp only [List.mem_cons, List.mem_nil_iff, or_false] at hu
      rcases hu with rfl | rfl | rfl | rfl | rfl | rfl <;> simp [bv]) HS.out.2 (Nat.le_refl _)).1
    rwa [← HK.out] at this)
  have HB3 := Lib.hid HS.out.2
  go_loop [7, 21] (fun r i => r = .slice none 0 0 ∧ i = .int .i64 0) (fun _ _ => 0)
  case atStart => exact ⟨rfl, rfl⟩
  case round =>
    obtain ⟨rfl, rfl⟩ := hrel
    clear HS HK2
    go_wp2_with fail
    refine bodyPost_ret (v := .tuple #[.agg #[.int .i64 kd, .bool n, .slice a l c, .int .u64 0, .string t, .slice none 0 0], .slice none 0 0, .bool ok]) (by simp [results, Tryz.results21, go_sem, z0, z1, z2, z3, z4, z5]) rfl ?_
    exact ⟨n, a, l, c, t, by rw [HK.out, HO.out, HZ.out], by rw [HZ.out]; exact hS3.out, six_below HB3.out (Nat.le_refl _) _ _ _ _ _ _⟩
set_option maxHeartbeats 3200000 in
theorem textM_rindex (s p : ByteArray) (g : Nat) (x y : Scal) (n1 n2 : Bool) (a1 a2 : Option Addr) (l1 c1 l2 c2 : Nat) (t1 t2 : ByteArray) (w : World) (hs : s.size ≤ 60) (hp : p.size ≤ 60) (hA : SArgs w g p x y n1 n2 a1 a2 l1 c1 l2 c2 t1 t2) (px : Pl x) (py : Pl y) :
    Calls Tryz.prog 48 #[.string s, .string ({ data := #[114, 105, 110, 100, 101, 120] } : ByteArray), .slice (some ⟨g, 0, none⟩) 3 3] w (AnsPost (findR false true s p x y) w) := by
  obtain ⟨W0, hW0⟩ : ∃ W0, W0 = w.alloc (.cells #[.int .i64 0, .bool false, .slice none 0 0, .int .u64 0, .string { data := #[] }, .slice none 0 0] 26) := ⟨_, rfl⟩
  have hz : Blk W0 w.heap.size 26 [.int .i64 0, .bool false, .slice none 0 0, .int .u64 0, .string { data := #[] }, .slice none 0 0] := by rw [hW0]; exact blk_zero w
  have hb0 : Below w.heap.size w W0 := by rw [hW0]; exact (Below.refl _ _).alloc (Nat.le_refl _) _
  have C : Hid (Calls Tryz.prog 79 #[.string s, .string ({ data := #[114, 105, 110, 100, 101, 120] } : ByteArray), .slice (some ⟨g, 0, none⟩) 3 3] W0 fun e w' => ∃ n a l c t, e = .returned (.tuple #[.agg #[.int .i64 (ansS (findR false true s p x y)).kind, .bool n, .slice a l c, .int .u64 0, .string t, .slice none 0 0], .bool (findR false true s p x y).isSome]) ∧ VaP w' (ansS (findR false true s p x y)) n a l c t ∧ Blk w' w.heap.size 26 [.int .i64 0, .bool false, .slice none 0 0, .int .u64 0, .string { data := #[] }, .slice none 0 0] ∧ Below w.heap.size w w') := Lib.hid ((found_rindex s p g x y n1 n2 a1 a2 l1 c1 l2 c2 t1 t2 W0 hs hp (hA.below hb0) px py).mono (by
    rintro e w' ⟨n, a, l, c, t, rfl, hv, hb⟩
    exact ⟨n, a, l, c, t, rfl, hv, hz.below hb hz.lt, hb0.trans (hb.mono hb0.size)⟩))
  clear hA px py hb0 hz hs hp
  generalize findR false true s p x y = r at *
  generalize hz : ansS r = z at *
  obtain ⟨kd, hkd⟩ : ∃ kd, kd = z.kind := ⟨_, rfl⟩
  obtain ⟨ok, hok⟩ : ∃ ok, ok = r.isSome := ⟨_, rfl⟩
  rw [← hkd, ← hok] at C
  have HZ := Lib.hid hz; have HK := Lib.hid hkd; have HO := Lib.hid hok
  clear hz hkd hok
  go_enter Tryz.func48, Tryz.ntmps48
  go_wp2_with fail
  rw [← hW0]
  clear hW0
  refine C.out.mono ?_
  rintro e w1 ⟨n, a, l, c, t, rfl, hv, hk, hb⟩
  obtain ⟨⟨z0, z1, z2, z3, z4, z5⟩, y0, y1, y2, y3, y4, y5⟩ := six_ready (w := w) hk
  have lz := hk.lt
  have hS := vaP_store (w := w) hv hk zero_not_bv hb (Nat.le_refl _)
  have hk2 := six_set hk (.int .i64 z.kind) (.bool n) (.slice a l c) (.int .u64 0) (.string t) (.slice none 0 0)
  rw [← HK.out] at hS hk2
  have HS := Lib.hid hS
  clear hv hk hb C hS hk2
  go_wp2_with fail
  refine bodyPost_ret (v := .tuple #[.agg #[.int .i64 kd, .bool n, .slice a l c, .int .u64 0, .string t, .slice none 0 0], .bool ok]) (by simp [results, Tryz.results48, go_sem, z0, z1, z2, z3, z4, z5]) rfl ?_
  exact ⟨n, a, l, c, t, by rw [HK.out, HO.out, HZ.out], by rw [HZ.out]; exact HS.out.1, HS.out.2⟩
set_option maxHeartbeats 3200000 in
theorem asked_rindex (s p : ByteArray) (g : Nat) (x y : Scal) (n1 n2 : Bool) (a1 a2 : Option Addr) (l1 c1 l2 c2 : Nat) (t1 t2 : ByteArray) (w : World) (hs : s.size ≤ 60) (hp : p.size ≤ 60) (hA : SArgs w g p x y n1 n2 a1 a2 l1 c1 l2 c2 t1 t2) (px : Pl x) (py : Pl y) :
    Calls Tryz.prog 21 #[.string s, .string ({ data := #[114, 105, 110, 100, 101, 120] } : ByteArray), .slice (some ⟨g, 0, none⟩) 3 3] w (AskPost (findR false true s p x y) w) := by
  obtain ⟨W0, hW0⟩ : ∃ W0, W0 = w.alloc (.cells #[.int .i64 0, .bool false, .slice none 0 0, .int .u64 0, .string { data := #[] }, .slice none 0 0] 26) := ⟨_, rfl⟩
  have hz : Blk W0 w.heap.size 26 [.int .i64 0, .bool false, .slice none 0 0, .int .u64 0, .string { data := #[] }, .slice none 0 0] := by rw [hW0]; exact blk_zero w
  have hb0 : Below w.heap.size w W0 := by rw [hW0]; exact (Below.refl _ _).alloc (Nat.le_refl _) _
  have C : Hid (Calls Tryz.prog 48 #[.string s, .string ({ data := #[114, 105, 110, 100, 101, 120] } : ByteArray), .slice (some ⟨g, 0, none⟩) 3 3] W0 fun e w' => ∃ n a l c t, e = .returned (.tuple #[.agg #[.int .i64 (ansS (findR false true s p x y)).kind, .bool n, .slice a l c, .int .u64 0, .string t, .slice none 0 0], .bool (findR false true s p x y).isSome]) ∧ VaP w' (ansS (findR false true s p x y)) n a l c t ∧ Blk w' w.heap.size 26 [.int .i64 0, .bool false, .slice none 0 0, .int .u64 0, .string { data := #[] }, .slice none 0 0] ∧ Below w.heap.size w w') := Lib.hid ((textM_rindex s p g x y n1 n2 a1 a2 l1 c1 l2 c2 t1 t2 W0 hs hp (hA.below hb0) px py).mono (by
    rintro e w' ⟨n, a, l, c, t, rfl, hv, hb⟩
    exact ⟨n, a, l, c, t, rfl, hv, hz.below hb hz.lt, hb0.trans (hb.mono hb0.size)⟩))
  clear hA px py hb0 hz hs hp
  generalize findR false true s p x y = r at *
  generalize hz : ansS r = z at *
  obtain ⟨kd, hkd⟩ : ∃ kd, kd = z.kind := ⟨_, rfl⟩
  obtain ⟨ok, hok⟩ : ∃ ok, ok = r.isSome := ⟨_, rfl⟩
  rw [← hkd, ← hok] at C
  have HZ := Lib.hid hz; have HK := Lib.hid hkd; have HO := Lib.hid hok
  clear hz hkd hok
  go_enter Tryz.func21, Tryz.ntmps21
  go_wp2_with fail
  rw [← hW0]
  clear hW0
  refine C.out.mono ?_
  rintro e w1 ⟨n, a, l, c, t, rfl, hv, hk, hb⟩
  obtain ⟨⟨z0, z1, z2, z3, z4, z5⟩, y0, y1, y2, y3, y4, y5⟩ := six_ready (w := w) hk
  have lz := hk.lt
  have hS := vaP_store (w := w) hv hk zero_not_bv hb (Nat.le_refl _)
  have hk2 := six_set hk (.int .i64 z.kind) (.bool n) (.slice a l c) (.int .u64 0) (.string t) (.slice none 0 0)
  rw [← HK.out] at hS hk2
  have HS := Lib.hid hS; have HK2 := Lib.hid hk2
  clear hv hk hb C hS hk2
  go_wp2_with fail
  generalize ((((((w1.setCell ⟨w.heap.size, 0, none⟩ (.int .i64 kd)).setCell ⟨w.heap.size, 1, none⟩ (.bool n)).setCell ⟨w.heap.size, 2, none⟩ (.slice a l c)).setCell ⟨w.heap.size, 3, none⟩ (.int .u64 0)).setCell ⟨w.heap.size, 4, none⟩ (.string t)).setCell ⟨w.heap.size, 5, none⟩ (.slice none 0 0)) = W2 at *
  clear z0 z1 z2 z3 z4 z5 y0 y1 y2 y3 y4 y5 lz
  obtain ⟨⟨z0, z1, z2, z3, z4, z5⟩, y0, y1, y2, y3, y4, y5⟩ := six_ready (w := w) HK2.out
  have lz := lt_of_cell z0
  have hS3 : Hid (VaP ((((((W2.setCell ⟨w.heap.size, 0, none⟩ (.int .i64 kd)).setCell ⟨w.heap.size, 1, none⟩ (.bool n)).setCell ⟨w.heap.size, 2, none⟩ (.slice a l c)).setCell ⟨w.heap.size, 3, none⟩ (.int .u64 0)).setCell ⟨w.heap.size, 4, none⟩ (.string t)).setCell ⟨w.heap.size, 5, none⟩ (.slice none 0 0)) z n a l c t) := Lib.hid (by
    have := (vaP_store (w := w) HS.out.1 HK2.out (by
      intro u hu m
      simp only [List.mem_cons, List.mem_nil_iff, or_false] at hu
      rcases hu with rfl | rfl | rfl | rfl | rfl | rfl <;> simp [bv]) HS.out.2 (Nat.le_refl _)).1
    rwa [← HK.out] at this)
  have HB3 := Lib.hid HS.out.2
  go_loop [7, 21] (fun r i => r = .slice none 0 0 ∧ i = .int .i64 0) (fun _ _ => 0)
  case atStart => exact ⟨rfl, rfl⟩
  case round =>
    obtain ⟨rfl, rfl⟩ := hrel
    clear HS HK2
    go_wp2_with fail
    refine bodyPost_ret (v := .tuple #[.agg #[.int .i64 kd, .bool n, .slice a l c, .int .u64 0, .string t, .slice none 0 0], .slice none 0 0, .bool ok]) (by simp [results, Tryz.results21, go_sem, z0, z1, z2, z3, z4, z5]) rfl ?_
    exact ⟨n, a, l, c, t, by rw [HK.out, HO.out, HZ.out], by rw [HZ.out]; exact hS3.out, six_below HB3.out (Nat.le_refl _) _ _ _ _ _ _⟩
end Go.Proofs.YtoggalnjjhcmkaaGreat
