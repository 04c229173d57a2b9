/- spec.Unquote: what reads as a text is read as it: the walk. -/
import Derived.Test.YtoghnefgflkpdaaDoorUnq4
import Derived.Test.YtoghnefgflkpdaaDoorVal
namespace Go.Proofs.YtoghnefgflkpdaaDoor
open Go.RowKit
set_option linter.unusedVariables false
set_option linter.unusedSimpArgs false
set_option maxRecDepth 1000000

/-- what is owned turns into its text -/
theorem conv_own {w : World} {base : Nat} {v : Value} {l : List UInt8} (h : w.ownsRow base 5 1 v l.length (cb l)) :
    (convert 27 9 v).run Tryd.prog w = .ok (.string ⟨l.toArray⟩) w := by
  have h' : w.ownsRow base 5 1 v (cb l).length (cb l) := by rw [cb_length]; exact h
  obtain ⟨a, c, rfl, hc, hr⟩ := Sl.of_own h'
  rcases a with _ | ad
  · have hn : l = [] := by
      by_cases hne : cb l = []
      · exact List.map_eq_nil_iff.1 hne
      · obtain ⟨b, o, h0, _⟩ := hr hne; cases h0
    subst hn
    exact run_convert_bytes_nil (P := Tryd.prog) w 27 5 Tryd.underlying27 Tryd.underlying5 _ _ 9 Tryd.underlying9
  · rcases h'.2 with ⟨h0, _⟩ | ⟨g, cap, cur, h0, _⟩
    · cases h0
    · have had : ad = ⟨g, 0, none⟩ := by
        simp only [Value.slice.injEq, Option.some.injEq] at h0; exact h0.1
      subst had
      have := run_convert_bytes_arg (P := Tryd.prog) w 27 5 Tryd.underlying27 Tryd.underlying5 g 0 (cb l).length c (bz l) (by simp [bz, cb]) (by
        intro i hi
        obtain ⟨b, o, h1, _, h2⟩ := hr (by intro e; rw [e] at hi; simp at hi)
        simp only [Option.some.injEq, Addr.mk.injEq] at h1
        obtain ⟨rfl, rfl, _⟩ := h1
        rw [h2 i hi]
        simp only [cb_length] at hi
        simp [cb, bz, List.getD_eq_getElem?_getD, List.getElem?_eq_getElem hi]) 9 Tryd.underlying9
      rw [strOfNums_bz] at this
      exact this
theorem oneCell_cb (l : List UInt8) : ∀ u ∈ cb l, u.oneCell' = true := by
  intro u hu
  obtain ⟨x, _, rfl⟩ := List.mem_map.1 hu
  rfl
/-- where the reading stands -/
def UnqRel (b : Bool) (T : ByteArray) (o : List UInt8) (w : World) (v i : Value) (wr : World) : Prop :=
  ∃ (k : Nat) (acc o' : List UInt8), i = .int .i64 (k : Int) ∧ k ≤ T.size ∧ acc.length ≤ 4 * k ∧ Hid (wr.ownsRow w.heap.size 5 1 v acc.length (cb acc)) ∧ Hid (Below w.heap.size w wr) ∧ Hid (acc ++ o' = o) ∧ Hid (Reads b (T.data.toList.drop k) o')
theorem dropT (T : ByteArray) (k : Nat) : (T.extract k T.size).data.toList = T.data.toList.drop k := by
  rw [dataQ, List.take_of_length_le]; rw [List.length_drop, Lib.size_eq]; exact Nat.le_refl _
theorem UnqRel.one {b : Bool} {T : ByteArray} {o : List UInt8} {w : World} {k : Nat} {acc l o1 : List UInt8} {c : UInt8} {v' : Value} {w2 : World} (hk : k < T.size) (ha : acc.length ≤ 4 * k)
    (hd : T.data.toList.drop k = c :: l) (ho : acc ++ c :: o1 = o) (hr : Reads b l o1) (h1 : w2.ownsRow w.heap.size 5 1 v' (acc.length + 1) (cb acc ++ [.int .u8 (c.toNat : Int)])) (hb : Below w.heap.size w w2) :
    UnqRel b T o w v' (.int .i64 ((k : Int) + 1)) w2 := by
  refine ⟨k + 1, acc ++ [c], o1, by simp, by omega, by simp; omega, ?_, hb, by show _ = _; rw [← ho]; simp, ?_⟩
  · show World.ownsRow _ _ _ _ _ _ _
    simpa [cb] using h1
  · show Reads _ _ _
    have : T.data.toList.drop (k + 1) = l := by rw [← List.drop_drop, hd]; rfl
    rw [this]; exact hr
theorem UnqRel.esc {b : Bool} {T : ByteArray} {o : List UInt8} {w : World} {k n : Nat} {acc e p l o1 : List UInt8} {v' : Value} {w2 : World} (hk : k + n ≤ T.size) (ha : acc.length ≤ 4 * k) (hn : e.length = n) (hn2 : 2 ≤ n) (hp : p.length ≤ 4)
    (hd : T.data.toList.drop k = e ++ l) (ho : acc ++ (p ++ o1) = o) (hr : Reads b l o1) (h1 : w2.ownsRow w.heap.size 5 1 v' (acc.length + (cb p).length) (cb acc ++ cb p)) (hb : Below w.heap.size w w2) :
    UnqRel b T o w v' (.int .i64 ((k : Int) + (n : Int))) w2 := by
  refine ⟨k + n, acc ++ p, o1, by simp, hk, by simp; omega, ?_, hb, by show _ = _; rw [← ho]; simp, ?_⟩
  · show World.ownsRow _ _ _ _ _ _ _
    simpa [cb] using h1
  · show Reads _ _ _
    have : T.data.toList.drop (k + n) = l := by rw [← List.drop_drop, hd, ← hn]; simp
    rw [this]; exact hr

theorem _root_.Go.World.ownsRow.below1 {W0 w w1 : World} {e n : Nat} {v : Value} {xs : List Value} (h : w.ownsRow W0.heap.size e 1 v n xs) (h1 : Below W0.heap.size W0 w) (h2 : Below w.heap.size w w1) : w1.ownsRow W0.heap.size e 1 v n xs := by
  obtain ⟨hl, h | ⟨g, cap, cur, hv, hb, hh, h3⟩⟩ := h
  · exact ⟨hl, .inl h⟩
  · have hg : g < w.heap.size := by
      rcases Nat.lt_or_ge g w.heap.size with hlt | hge
      · exact hlt
      · rw [Array.getElem?_eq_none hge] at hh; cases hh
    exact ⟨hl, .inr ⟨g, cap, cur, hv, hb, (h2.block g hg).trans hh, h3⟩⟩

set_option maxHeartbeats 3200000 in
theorem unquote_any (b : Bool) (s : ByteArray) (L o : List UInt8) (w : World) (hd : s.data.toList = (if b then [98] else []) ++ (34 :: (L ++ [34]))) (hr : Reads b L o) (hs : s.size ≤ 34359738368) :
    Calls Tryd.prog 4 #[.string s, .bool b] w fun e w' => e = .returned (.tuple #[.string ⟨o.toArray⟩, .bool true]) ∧ Below w.heap.size w w' := by
  obtain ⟨i0, hi, hz0, hz1, hz2⟩ := info_parts (P := Tryd.prog) (e := 5) (z := .int .u8 0) (size := 1) (bytes := 1) (by kernel_rfl)
  obtain ⟨t, ht⟩ : ∃ t, t = (if b then s.extract 1 s.size else s) := ⟨_, rfl⟩
  have htd : t.data.toList = 34 :: (L ++ [34]) := by
    rw [ht]
    cases b with
    | true => simp only [if_true]; rw [dropT, hd]; rfl
    | false => simpa using hd
  have hts : t.size = L.length + 2 := by rw [Lib.size_eq, htd]; simp
  have hss : t.size ≤ s.size := by
    rw [ht]; cases b with
    | true => simp
    | false => simp
  have ht2 : 2 ≤ t.size := by omega
  have p0 : 0 < t.size := by omega
  have p1 : t.size - 1 < t.size := by omega
  have t0 : (t[0]'p0).toNat = 34 := by rw [data_at t [34] (L ++ [34]) htd 0 p0 (by simp)]; rfl
  have t1 : (t[t.size - 1]'p1).toNat = 34 := by
    rw [getElem_getD, htd, hts, List.getD_eq_getElem?_getD]
    simp
  obtain ⟨T, hT⟩ : ∃ T, T = t.extract 1 (t.size - 1) := ⟨_, rfl⟩
  have hTd : T.data.toList = L := by
    rw [hT, dataQ, htd, hts]
    simp
  have hTs : T.size ≤ 34359738368 := by rw [Lib.size_eq, hTd]; omega
  have ht3 : t.size ≤ 34359738368 := by omega
  cases b with
  | false =>
    simp only [Bool.false_eq_true, if_false] at ht
    subst ht
    have hT' := hT.symm
    clear hT hd hss htd
    have hTd' := Lib.hid hTd
    have START : Hid (UnqRel false T o w (.slice none 0 0) (.int .i64 0) w) := Lib.hid ⟨0, [], o, rfl, Nat.zero_le _, by simp, World.ownsRow_nil _ _ _ _, Below.refl _ _, by show _ = _; simp, by show Reads _ _ _; rw [List.drop_zero, hTd]; exact hr⟩
    clear hr hTd hts
    go_enter Tryd.func4, Tryd.ntmps4
    go_wp2_with fail
    go_loopw [6, 7] (UnqRel false T o w) (fun _ i _ => T.size - (intOf i).toNat)
    case atStart => exact START.out
    case round =>
      obtain ⟨k, acc, o', rfl, hk, ha, hown, hB, ho, hrd⟩ := hrel
      clear START
      by_cases hlt : k < T.size
      · have hltI : (k : Int) < (T.size : Int) := by omega
        have hkI : (0 : Int) ≤ (k : Int) := by omega
        obtain ⟨Lk, hLk⟩ : ∃ Lk, Lk = T.data.toList.drop k := ⟨_, rfl⟩
        have hrd' : Reads false Lk o' := by rw [hLk]; exact hrd.out
        have hLl : Lk.length = T.size - k := by rw [hLk, List.length_drop, ← Lib.size_eq]
        have hat : T[k]'hlt = Lk.getD 0 0 := by
          rw [getElem_getD, hLk, List.getD_eq_getElem?_getD, List.getD_eq_getElem?_getD, List.getElem?_drop, Nat.add_zero]
        clear hrd
        cases hrd' with
        | nil => simp at hLl; omega
        | one c l o1 h1 h2 h3 h4 h =>
          obtain ⟨n, hn⟩ : ∃ n : Nat, n = c.toNat := ⟨_, rfl⟩
          have hat' : (T[k]'hlt).toNat = n := by rw [hat, hn]; rfl
          have key : ∀ m : Nat, m < 256 → c ≠ m.toUInt8 → n ≠ m := by
            intro m hm hc he
            apply hc
            have : c.toNat = m := by omega
            rw [← this]; simp
          have q1 : ((n : Int) == 34) = false := by rw [beq_eq_false_iff_ne]; have := key 34 (by omega) h1; omega
          have q2 : ((n : Int) == 10) = false := by rw [beq_eq_false_iff_ne]; have := key 10 (by omega) h2; omega
          have q3 : ((n : Int) == 13) = false := by rw [beq_eq_false_iff_ne]; have := key 13 (by omega) h3; omega
          have q4 : ((n : Int) != 92) = true := by rw [bne_iff_ne]; have := key 92 (by omega) h4; omega
          have HFIN : Hid (∀ v' w2, w2.ownsRow w.heap.size 5 1 v' (acc.length + 1) (cb acc ++ [.int .u8 (n : Int)]) → Below w.heap.size w w2 → UnqRel false T o w v' (.int .i64 ((k : Int) + 1)) w2) := Lib.hid (fun v' w2 h5 h6 => by
            rw [hn] at h5
            exact UnqRel.one hlt ha hLk.symm ho.out h h5 h6)
          have HOW := Lib.hid (hown.out.alloc (.cells #[.int .u8 (n : Int)] 5))
          have HB2 := Lib.hid (hB.out.alloc hB.out.size (.cells #[.int .u8 (n : Int)] 5))
          clear hLk hLl hat hn key h1 h2 h3 h4 h ho hown hB
          go_wp2_with (at_builtin; refine wpList_append_own _ rfl _ _ 27 rfl w.heap.size 5 i0 (.int .u8 0) 1 1 Tryd.underlying27 hi hz0 hz1 hz2 rfl (by decide) _ _ _ rfl HOW.out ⟨wr.heap.size, 0, none⟩ 1 1 [.int .u8 (n : Int)] rfl rfl ?c1 ?c2 ?c3 ?c4 ?c5 ?_)
          case c1 => intro j u hj; cases j with | zero => simp at hj; subst hj; simp [Addr.add] | succ j => simp at hj
          case c2 => simp [Value.oneCell']
          case c3 => unfold maxLen; omega
          case c4 => omega
          case c5 => exact HB2.out.size
          intro v' w2 ho2 hg _
          have HO2 := Lib.hid (HFIN.out v' w2 ho2 (HB2.out.grown hg HB2.out.size (fun k hk => (HOW.out.lt k hk).1)))
          clear ho2 hg HFIN
          go_wp2_with fail
          go_roundw
          case rel => first | exact HO2.out | ((repeat apply Exists.intro); exact ⟨HO2.out, rfl⟩)
          case measure => simp [intOf]; omega
        | esc e p l o1 he h =>
          have hel := he.length
          obtain ⟨n, hn⟩ : ∃ n : Nat, e.length = n := ⟨_, rfl⟩
          have hat' : (T[k]'hlt).toNat = 92 := by
            rw [hat, List.getD_eq_getElem?_getD, List.getElem?_append_left (by omega), ← List.getD_eq_getElem?_getD, hel.2.2.2]; rfl
          rw [hn] at hel
          have hkn : k + n ≤ T.size := by rw [List.length_append, hn] at hLl; omega
          have hknI : (k : Int) + (n : Int) ≤ (T.size : Int) := by omega
          have C : Hid (∀ W, Calls Tryd.prog 7 #[.string (T.extract k T.size), .bool false] W (EscOut p n W)) := Lib.hid (fun W => by
            have := escape_any false e p l (T.extract k T.size) W he (by rw [dropT]; exact hLk.symm) (by simp; omega)
            rw [hn] at this; exact this)
          have q1 : ((n : Int) == 0) = false := by rw [beq_eq_false_iff_ne]; omega
          have HFIN : Hid (∀ v' w2, w2.ownsRow w.heap.size 5 1 v' (acc.length + (cb p).length) (cb acc ++ cb p) → Below w.heap.size w w2 → UnqRel false T o w v' (.int .i64 ((k : Int) + (n : Int))) w2) := Lib.hid (fun v' w2 h5 h6 => UnqRel.esc hkn ha hn (by omega) (by omega) hLk.symm ho.out h h5 h6)
          have hpl : p.length ≤ 4 := hel.2.2.1
          have hn10 : n ≤ 10 := hel.2.1
          have hn2 : 2 ≤ n := hel.1
          clear hLk hLl hat hn h ho he hel
          go_wp2_with (first | (go_at_call 7; refine (C.out _).mono ?_; rintro e w1 ⟨pv, rfl, hsl, hb1⟩; obtain ⟨pa, pc, rfl, _⟩ := id hsl; have HSL := Lib.hid hsl; have HOW := Lib.hid (hown.out.below1 hB.out hb1); have HB2 := Lib.hid (hB.out.trans (hb1.mono hB.out.size)); clear hsl hb1) | (at_builtin; refine wpList_append_sl _ rfl _ _ 27 rfl w.heap.size 5 i0 (.int .u8 0) 1 Tryd.underlying27 hi hz0 hz1 hz2 rfl _ _ _ rfl HOW.out _ _ (cb p) rfl HSL.out (oneCell_cb p) (by rw [cb_length]; unfold maxLen; omega) (by rw [cb_length]; omega) HB2.out.size ?_; intro v' w2 ho2 hg; have HO2 := Lib.hid (HFIN.out v' w2 ho2 (HB2.out.grown hg HB2.out.size (fun k hk => (HOW.out.lt k hk).1))); clear ho2 hg HFIN))
          go_roundw
          case rel => first | exact HO2.out | ((repeat apply Exists.intro); exact ⟨HO2.out, rfl⟩)
          case measure => simp [intOf]; omega
      · have hltI : decide ((k : Int) < (T.size : Int)) = false := by simp; omega
        have hltN : decide (k < T.size) = false := by simp; omega
        have hcv := conv_own hown.out
        have e0 : acc = o := by
          have h1 := hrd.out
          rw [List.drop_eq_nil_of_le (by rw [← Lib.size_eq]; omega)] at h1
          have h2 := ho.out
          generalize hz : ([] : List UInt8) = z at h1
          cases h1 with
          | nil => simpa using h2
          | one => cases hz
          | esc e p l o1 he h => have := he.length; have := congrArg List.length hz; simp at this; omega
        have HE := Lib.hid e0
        clear e0 hrd ho hown
        go_wp2_with fail
        go_ret2
        have e1 := HE.out
        subst e1
        exact ⟨rfl, hB.out⟩
  | true =>
    simp only [if_true] at ht
    have ht' := ht.symm
    have hsz : 1 ≤ s.size := by rw [Lib.size_eq, hd]; simp
    have s0 : (s[0]'hsz).toNat = 98 := by rw [data_at s [98] (34 :: (L ++ [34])) (by simpa using hd) 0 hsz (by simp)]; rfl
    clear ht
    have hT' := hT.symm
    clear hT hd hss htd
    have hTd' := Lib.hid hTd
    have START : Hid (UnqRel true T o w (.slice none 0 0) (.int .i64 0) w) := Lib.hid ⟨0, [], o, rfl, Nat.zero_le _, by simp, World.ownsRow_nil _ _ _ _, Below.refl _ _, by show _ = _; simp, by show Reads _ _ _; rw [List.drop_zero, hTd]; exact hr⟩
    clear hr hTd hts
    go_enter Tryd.func4, Tryd.ntmps4
    go_wp2_with fail
    go_loopw [6, 7] (UnqRel true T o w) (fun _ i _ => T.size - (intOf i).toNat)
    case atStart => exact START.out
    case round =>
      obtain ⟨k, acc, o', rfl, hk, ha, hown, hB, ho, hrd⟩ := hrel
      clear START
      by_cases hlt : k < T.size
      · have hltI : (k : Int) < (T.size : Int) := by omega
        have hkI : (0 : Int) ≤ (k : Int) := by omega
        obtain ⟨Lk, hLk⟩ : ∃ Lk, Lk = T.data.toList.drop k := ⟨_, rfl⟩
        have hrd' : Reads true Lk o' := by rw [hLk]; exact hrd.out
        have hLl : Lk.length = T.size - k := by rw [hLk, List.length_drop, ← Lib.size_eq]
        have hat : T[k]'hlt = Lk.getD 0 0 := by
          rw [getElem_getD, hLk, List.getD_eq_getElem?_getD, List.getD_eq_getElem?_getD, List.getElem?_drop, Nat.add_zero]
        clear hrd
        cases hrd' with
        | nil => simp at hLl; omega
        | one c l o1 h1 h2 h3 h4 h =>
          obtain ⟨n, hn⟩ : ∃ n : Nat, n = c.toNat := ⟨_, rfl⟩
          have hat' : (T[k]'hlt).toNat = n := by rw [hat, hn]; rfl
          have key : ∀ m : Nat, m < 256 → c ≠ m.toUInt8 → n ≠ m := by
            intro m hm hc he
            apply hc
            have : c.toNat = m := by omega
            rw [← this]; simp
          have q1 : ((n : Int) == 34) = false := by rw [beq_eq_false_iff_ne]; have := key 34 (by omega) h1; omega
          have q2 : ((n : Int) == 10) = false := by rw [beq_eq_false_iff_ne]; have := key 10 (by omega) h2; omega
          have q3 : ((n : Int) == 13) = false := by rw [beq_eq_false_iff_ne]; have := key 13 (by omega) h3; omega
          have q4 : ((n : Int) != 92) = true := by rw [bne_iff_ne]; have := key 92 (by omega) h4; omega
          have HFIN : Hid (∀ v' w2, w2.ownsRow w.heap.size 5 1 v' (acc.length + 1) (cb acc ++ [.int .u8 (n : Int)]) → Below w.heap.size w w2 → UnqRel true T o w v' (.int .i64 ((k : Int) + 1)) w2) := Lib.hid (fun v' w2 h5 h6 => by
            rw [hn] at h5
            exact UnqRel.one hlt ha hLk.symm ho.out h h5 h6)
          have HOW := Lib.hid (hown.out.alloc (.cells #[.int .u8 (n : Int)] 5))
          have HB2 := Lib.hid (hB.out.alloc hB.out.size (.cells #[.int .u8 (n : Int)] 5))
          clear hLk hLl hat hn key h1 h2 h3 h4 h ho hown hB
          go_wp2_with (at_builtin; refine wpList_append_own _ rfl _ _ 27 rfl w.heap.size 5 i0 (.int .u8 0) 1 1 Tryd.underlying27 hi hz0 hz1 hz2 rfl (by decide) _ _ _ rfl HOW.out ⟨wr.heap.size, 0, none⟩ 1 1 [.int .u8 (n : Int)] rfl rfl ?c1 ?c2 ?c3 ?c4 ?c5 ?_)
          case c1 => intro j u hj; cases j with | zero => simp at hj; subst hj; simp [Addr.add] | succ j => simp at hj
          case c2 => simp [Value.oneCell']
          case c3 => unfold maxLen; omega
          case c4 => omega
          case c5 => exact HB2.out.size
          intro v' w2 ho2 hg _
          have HO2 := Lib.hid (HFIN.out v' w2 ho2 (HB2.out.grown hg HB2.out.size (fun k hk => (HOW.out.lt k hk).1)))
          clear ho2 hg HFIN
          go_wp2_with fail
          go_roundw
          case rel => first | exact HO2.out | ((repeat apply Exists.intro); exact ⟨HO2.out, rfl⟩)
          case measure => simp [intOf]; omega
        | esc e p l o1 he h =>
          have hel := he.length
          obtain ⟨n, hn⟩ : ∃ n : Nat, e.length = n := ⟨_, rfl⟩
          have hat' : (T[k]'hlt).toNat = 92 := by
            rw [hat, List.getD_eq_getElem?_getD, List.getElem?_append_left (by omega), ← List.getD_eq_getElem?_getD, hel.2.2.2]; rfl
          rw [hn] at hel
          have hkn : k + n ≤ T.size := by rw [List.length_append, hn] at hLl; omega
          have hknI : (k : Int) + (n : Int) ≤ (T.size : Int) := by omega
          have C : Hid (∀ W, Calls Tryd.prog 7 #[.string (T.extract k T.size), .bool true] W (EscOut p n W)) := Lib.hid (fun W => by
            have := escape_any true e p l (T.extract k T.size) W he (by rw [dropT]; exact hLk.symm) (by simp; omega)
            rw [hn] at this; exact this)
          have q1 : ((n : Int) == 0) = false := by rw [beq_eq_false_iff_ne]; omega
          have HFIN : Hid (∀ v' w2, w2.ownsRow w.heap.size 5 1 v' (acc.length + (cb p).length) (cb acc ++ cb p) → Below w.heap.size w w2 → UnqRel true T o w v' (.int .i64 ((k : Int) + (n : Int))) w2) := Lib.hid (fun v' w2 h5 h6 => UnqRel.esc hkn ha hn (by omega) (by omega) hLk.symm ho.out h h5 h6)
          have hpl : p.length ≤ 4 := hel.2.2.1
          have hn10 : n ≤ 10 := hel.2.1
          have hn2 : 2 ≤ n := hel.1
          clear hLk hLl hat hn h ho he hel
          go_wp2_with (first | (go_at_call 7; refine (C.out _).mono ?_; rintro e w1 ⟨pv, rfl, hsl, hb1⟩; obtain ⟨pa, pc, rfl, _⟩ := id hsl; have HSL := Lib.hid hsl; have HOW := Lib.hid (hown.out.below1 hB.out hb1); have HB2 := Lib.hid (hB.out.trans (hb1.mono hB.out.size)); clear hsl hb1) | (at_builtin; refine wpList_append_sl _ rfl _ _ 27 rfl w.heap.size 5 i0 (.int .u8 0) 1 Tryd.underlying27 hi hz0 hz1 hz2 rfl _ _ _ rfl HOW.out _ _ (cb p) rfl HSL.out (oneCell_cb p) (by rw [cb_length]; unfold maxLen; omega) (by rw [cb_length]; omega) HB2.out.size ?_; intro v' w2 ho2 hg; have HO2 := Lib.hid (HFIN.out v' w2 ho2 (HB2.out.grown hg HB2.out.size (fun k hk => (HOW.out.lt k hk).1))); clear ho2 hg HFIN))
          go_roundw
          case rel => first | exact HO2.out | ((repeat apply Exists.intro); exact ⟨HO2.out, rfl⟩)
          case measure => simp [intOf]; omega
      · have hltI : decide ((k : Int) < (T.size : Int)) = false := by simp; omega
        have hltN : decide (k < T.size) = false := by simp; omega
        have hcv := conv_own hown.out
        have e0 : acc = o := by
          have h1 := hrd.out
          rw [List.drop_eq_nil_of_le (by rw [← Lib.size_eq]; omega)] at h1
          have h2 := ho.out
          generalize hz : ([] : List UInt8) = z at h1
          cases h1 with
          | nil => simpa using h2
          | one => cases hz
          | esc e p l o1 he h => have := he.length; have := congrArg List.length hz; simp at this; omega
        have HE := Lib.hid e0
        clear e0 hrd ho hown
        go_wp2_with fail
        go_ret2
        have e1 := HE.out
        subst e1
        exact ⟨rfl, hB.out⟩
end Go.Proofs.YtoghnefgflkpdaaDoor
