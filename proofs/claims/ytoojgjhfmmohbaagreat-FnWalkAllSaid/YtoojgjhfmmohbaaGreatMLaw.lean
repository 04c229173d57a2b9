/- laws.scopeAlike: two lists of the same texts are alike. impl.Walk; the law's walk (printed by genwklaw.py). -/
import Derived.Test.YtoojgjhfmmohbaaGreatWkMk2
import Derived.OwnWalk
import Derived.Test.YtoojgjhfmmohbaaGreatWkImpl
import Derived.Test.YtoojgjhfmmohbaaGreatWkNames3
import Derived.Test.YtoojgjhfmmohbaaGreatMFite
namespace Go.Proofs.YtoojgjhfmmohbaaGreat
open Go.RowKit Dig
set_option linter.unusedVariables false
set_option linter.unusedSimpArgs false
set_option maxRecDepth 100000
def Uk (n k : Nat) : List Value := (List.range n).map fun j => Value.bool (decide (j < k))
theorem Uk.len (n k : Nat) : (Uk n k).length = n := by simp [Uk]
theorem Uk.get {n k j : Nat} (h : j < n) : (Uk n k)[j]? = some (.bool (decide (j < k))) := by simp [Uk, h]
theorem Uk.set {n k : Nat} (h : k < n) : (Uk n k).set k (.bool true) = Uk n (k + 1) := by
 apply List.ext_getElem?
 intro j
 rcases Nat.lt_or_ge j n with hj | hj
 · rw [Uk.get hj]
   by_cases hjk : j = k
   · subst hjk
     rw [List.getElem?_set_self (by rw [Uk.len]; exact h)]
     simp
   · rw [List.getElem?_set_ne (fun e => hjk e.symm), Uk.get hj]
     have : decide (j < k) = decide (j < k + 1) := by simp; omega
     rw [this]
 · rw [List.getElem?_eq_none (by rw [List.length_set, Uk.len]; exact hj), List.getElem?_eq_none (by rw [Uk.len]; exact hj)]
theorem Uk.zero (n : Nat) : Uk n 0 = List.replicate n (.bool false) := by
 apply List.ext_getElem?
 intro j
 rcases Nat.lt_or_ge j n with hj | hj
 · rw [Uk.get hj, List.getElem?_replicate, if_pos hj]; simp
 · rw [List.getElem?_eq_none (by rw [Uk.len]; exact hj), List.getElem?_eq_none (by simpa using hj)]
theorem infoBool : (Tryz.prog.info? 4).map (fun i => (i.zero, i.size, i.bytes)) = some (some (.bool false), 1, 1) := by kernel_rfl
def ScPost (w : World) (e : Ending) (w' : World) : Prop := e = .returned (.bool true) ∧ Below w.heap.size w w'
def ScRel (w : World) (n ub : Nat) (i : Value) (wr : World) : Prop := ∃ k : Nat, k ≤ n ∧ i = .int .i64 (k : Int) ∧ Hid (Blk wr ub 4 (Uk n k)) ∧ Hid (Below w.heap.size w wr)
def ScIn (w : World) (n ub k : Nat) (f i : Value) (wr : World) : Prop := ∃ (j : Nat) (fb : Bool), j ≤ n ∧ i = .int .i64 (j : Int) ∧ f = .bool fb ∧ Hid (fb = decide (k < j)) ∧ Hid (Blk wr ub 4 (Uk n (if k < j then k + 1 else k))) ∧ Hid (Below w.heap.size w wr)
set_option maxHeartbeats 6400000 in
theorem scopeAlike_any (L : List ByteArray) (a1 a2 : Option Addr) (c1 c2 : Nat) (w : World) (h1 : Sl w w.heap.size (.slice a1 L.length c1) (L.map .string)) (h2 : Sl w w.heap.size (.slice a2 L.length c2) (L.map .string)) (hl : L.length ≤ 1000000) (hc1 : c1 ≤ maxLen) (hc2 : c2 ≤ maxLen) :
   Calls Tryz.prog 8 #[.slice a1 L.length c1, .slice a2 L.length c2] w (ScPost w) := by
 obtain ⟨iB, hiB, hzB, hsB, hbB⟩ := info_parts infoBool
 unfold maxLen at hc1 hc2
 have rd : ∀ {a : Option Addr} {c : Nat}, Sl w w.heap.size (.slice a L.length c) (L.map .string) → L.length ≤ c ∧ ∀ k x, L[k]? = some x → ∃ b o, a = some ⟨b, o, none⟩ ∧ ∀ W, Below w.heap.size w W → W.cell? ⟨b, o + k, none⟩ = some (.string x) := by
   intro a c h
   obtain ⟨a', c', e, hc, hr⟩ := h
   simp only [List.length_map, Value.slice.injEq, true_and] at e
   obtain ⟨rfl, rfl⟩ := e
   refine ⟨by simpa using hc, fun k x hx => ?_⟩
   have hkl := (List.getElem?_eq_some_iff.1 hx).1
   obtain ⟨b, o, ha, hb, hrd⟩ := hr (by intro h0; simp at h0; rw [h0] at hkl; simp at hkl)
   refine ⟨b, o, ha, fun W hW => ?_⟩
   rw [hW.cell (p := ⟨b, o + k, none⟩) hb, hrd k (by simpa using hkl)]
   simp [List.getD_eq_getElem?_getD, hx]
 obtain ⟨hn1, r1⟩ := rd h1
 obtain ⟨hn2, r2⟩ := rd h2
 have R1 := Li r1
 have R2 := Li r2
 clear rd r1 r2 h1 h2
 obtain ⟨n, hn⟩ : ∃ n, n = L.length := ⟨_, rfl⟩
 have HN := Li hn
 rw [← hn] at hl hn1 hn2 ⊢
 clear hn
 have hn0 : (0 : Int) ≤ (n : Int) := by omega
 have b2 : iB.bytes * n ≤ 281474976710656 := by rw [hbB]; omega
 go_enter Tryz.func8, Tryz.ntmps8
 go_wp2_with (at_make; refine wpList_make_full _ rfl _ _ 44 rfl w.heap.size 4 iB (.bool false) 1 Tryz.underlying44 hiB hzB hsB _ _ _ _ n rfl rfl rfl rfl b2 (by unfold maxLen; omega) (Nat.le_refl _) ?_; intro w1 hown hg; have OW := Li hown; have GR := Li hg; clear hown hg)
 have hb1 : Below w.heap.size w w1 := ⟨GR.out.os, GR.out.tape, GR.out.output, GR.out.size, fun b hb => GR.out.block b hb (by simp)⟩
 have START : Hid (ScRel w n w.heap.size (.int .i64 0) w1) := Li (by
   refine ⟨0, Nat.zero_le _, rfl, Li ?_, Li hb1⟩
   rcases OW.out.2 with ⟨h0, _⟩ | ⟨g, cap, cur, e, hb, hh, hn, hcm, hs, ht⟩
   · cases h0
   · simp only [Value.slice.injEq, Option.some.injEq, Addr.mk.injEq, and_true, true_and] at e
     obtain ⟨rfl, rfl⟩ := e
     have hk : Blk w1 w.heap.size 4 cur.toList := by unfold Blk; rw [hh]
     have hcur : cur.toList = Uk n 0 := by
       rw [Uk.zero]
       have h1 : cur.toList.length ≤ n * 1 := by simp; omega
       rw [List.take_of_length_le h1] at ht
       rw [ht]
       simp only [madeCells, Value.cells]
       apply List.ext_getElem?
       intro j
       rcases Nat.lt_or_ge j n with hj | hj
       · simp [hj, Nat.mod_one]
       · simp [hj]
     rwa [hcur] at hk)
 clear hb1 OW GR
 go_wp2_with fail
 go_loopw [21] (ScRel w n w.heap.size) (fun i _ => n - (intOf i).toNat)
 case atStart => exact START.out
 case round =>
   obtain ⟨k, hk, rfl, HBK, HBL⟩ := hrel
   clear START
   by_cases hlt : k < n
   · obtain ⟨x, hx⟩ : ∃ x, L[k]? = some x := ⟨_, List.getElem?_eq_getElem (by rw [← HN.out]; exact hlt)⟩
     obtain ⟨b1, o1, rfl, g1⟩ := R1.out k x hx
     have x1 := g1 wr HBL.out
     have HG1 := Li g1
     have HX := Li hx
     have ST2 : Hid (ScIn w n w.heap.size k (.bool false) (.int .i64 0) wr) := Li ⟨0, false, Nat.zero_le _, rfl, rfl, Li (by simp), by simpa using HBK, HBL⟩
     clear g1 hx HBK HBL
     go_wp2_with fail
     go_loopw [8, 27] (ScIn w n w.heap.size k) (fun _ i _ => n - (intOf i).toNat)
     case atStart => exact ST2.out
     case round =>
       obtain ⟨j, fb, hj, rfl, rfl, HFB, HBK2, HBL2⟩ := hrel
       clear ST2 x1
       by_cases hjn : j < n
       · obtain ⟨y, hy⟩ : ∃ y, L[j]? = some y := ⟨_, List.getElem?_eq_getElem (by rw [← HN.out]; exact hjn)⟩
         obtain ⟨b2', o2, rfl, g2⟩ := R2.out j y hy
         have x2 := g2 wr HBL2.out
         have hub : w.heap.size < wr.heap.size := HBK2.out.lt
         rcases Nat.lt_trichotomy j k with hjk | hjk | hjk
         · obtain rfl : fb = false := by rw [HFB.out]; simp; omega
           have u0 : wr.cell? ⟨w.heap.size, j, none⟩ = some (.bool true) := by
             have h0 := HBK2.out
             rw [if_neg (by omega)] at h0
             rw [h0.cell j (by rw [Uk.len]; exact hjn), List.getD_eq_getElem?_getD, Uk.get hjn]
             simp [hjk]
           have FS : Hid (ScIn w n w.heap.size k (.bool false) (.int .i64 ((j : Int) + 1)) wr) := Li ⟨j + 1, false, hjn, by simp, rfl, Li (by simp; omega), Li (by have h0 := HBK2.out; rw [if_neg (by omega)] at h0 ⊢; exact h0), HBL2⟩
           clear HFB HBK2 HBL2 g2 hy hjk HX HG1
           go_wp2_with fail
           go_roundw
           case rel => first | exact FS.out | ((repeat apply Exists.intro); exact ⟨FS.out, rfl⟩)
           case measure => simp [intOf]; omega
         · obtain rfl : j = k := hjk
           obtain rfl : fb = false := by rw [HFB.out]; simp
           obtain rfl : y = x := by have h1 := HX.out; rw [hy] at h1; injection h1
           have hbk : Blk wr w.heap.size 4 (Uk n j) := by have h0 := HBK2.out; rwa [if_neg (by omega)] at h0
           have u0 : wr.cell? ⟨w.heap.size, j, none⟩ = some (.bool false) := by
             rw [hbk.cell j (by rw [Uk.len]; exact hjn), List.getD_eq_getElem?_getD, Uk.get hjn]
             simp
           have f0 := hbk.free j
           have FS : Hid (ScIn w n w.heap.size j (.bool true) (.int .i64 ((j : Int) + 1)) (wr.setCell ⟨w.heap.size, j, none⟩ (.bool true))) := Li ⟨j + 1, true, hjn, by simp, rfl, Li (by simp), Li (by rw [if_pos (by omega), ← Uk.set hjn]; exact hbk.set j (.bool true)), Li (HBL2.out.setCell (Nat.le_refl _) _)⟩
           clear HFB HBK2 HBL2 g2 hy HX HG1 hbk
           go_wp2_with fail
           go_roundw
           case rel => first | exact FS.out | ((repeat apply Exists.intro); exact ⟨FS.out, rfl⟩)
           case measure => simp [intOf]; omega
         · obtain rfl : fb = true := by rw [HFB.out]; simp; omega
           have FS : Hid (ScIn w n w.heap.size k (.bool true) (.int .i64 ((j : Int) + 1)) wr) := Li ⟨j + 1, true, hjn, by simp, rfl, Li (by simp; omega), Li (by have h0 := HBK2.out; rw [if_pos (by omega)] at h0 ⊢; exact h0), HBL2⟩
           clear HFB HBK2 HBL2 g2 hy hjk HX HG1
           go_wp2_with fail
           go_roundw
           case rel => first | exact FS.out | ((repeat apply Exists.intro); exact ⟨FS.out, rfl⟩)
           case measure => simp [intOf]; omega
       · obtain rfl : j = n := by omega
         obtain rfl : fb = true := by rw [HFB.out]; simp; exact hlt
         have FS : Hid (ScRel w j w.heap.size (.int .i64 ((k : Int) + 1)) wr) := Li ⟨k + 1, hlt, by simp, Li (by have h0 := HBK2.out; rwa [if_pos hlt] at h0), HBL2⟩
         clear HFB HBK2 HBL2 HX HG1
         go_wp2_with fail
         go_roundw
         case rel => first | exact FS.out | ((repeat apply Exists.intro); exact ⟨FS.out, rfl⟩)
         case measure => simp [intOf]; omega
   · obtain rfl : k = n := by omega
     have FIN : Hid (ScPost w (.returned (.bool true)) wr) := Li ⟨rfl, HBL.out⟩
     clear HBK HBL
     go_wp2_with fail
     go_ret
     exact FIN.out
set_option maxHeartbeats 6400000 in
theorem Walk_any {R : Nat → Nat → Option Value} {B : Nat} (nm : ByteArray) (l : List Tr) (sa : Option Addr) (sc : Nat) (o1 o2 o3 o4 o5 o6 : Bool) (w : World) (ho : Old R B w) (hB : B ≤ w.heap.size) (hl : StL R l (.slice sa l.length sc)) (hok : ∀ t ∈ l, OkS t) (hpl : ∀ t ∈ l, PlS t) (hq : ctSs l ≤ 8192) :
   Calls Tryz.prog 7 #[.agg #[.string nm, .slice sa l.length sc, .bool o1, .bool o2, .bool o3, .bool o4, .bool o5, .bool o6]] w (WalkPost l w) := by
 have b1 : Below w.heap.size w (w.alloc (.cells #[.string nm, .slice sa l.length sc, .bool o1, .bool o2, .bool o3, .bool o4, .bool o5, .bool o6] 26)) := (Below.refl _ _).alloc (Nat.le_refl _) _
 have WK := Li (walk_impl nm l sa sc o1 o2 o3 o4 o5 o6 (w.alloc (.cells #[.string nm, .slice sa l.length sc, .bool o1, .bool o2, .bool o3, .bool o4, .bool o5, .bool o6] 26)) (ho.below (b1.mono hB)) (by have := b1.size; omega) hl hok hpl hq)
 have HB1 := Li b1
 clear b1 ho hl hok hpl
 go_enter Tryz.func7, Tryz.ntmps7
 go_wp2_with fail
 refine WK.out.mono ?_
 rintro e w7 ⟨a7, k7, c7, rfl, hb7, hsl7, hk7, h7a, h7b⟩
 have FIN : Hid (WalkPost l w (.returned (.tuple #[.slice a7 (nmSs l).length k7, .int .i64 ((c7 : Nat) : Int), .int .i64 ((c7 : Nat) : Int), .bool true])) w7) := Li ⟨a7, k7, c7, rfl, HB1.out.trans (hb7.mono HB1.out.size), hsl7, hk7, h7a, h7b⟩
 clear hb7 hsl7 WK
 go_wp2_with fail
 exact bodyPost_ret (v := .tuple #[.slice a7 (nmSs l).length k7, .int .i64 ((c7 : Nat) : Int), .int .i64 ((c7 : Nat) : Int), .bool true]) (by simp [results, Tryz.results7, go_sem]) rfl FIN.out
theorem rr_sl {w : World} {lo : Nat} {v : Value} {ns : List ByteArray} (h : Rr w lo v (ns.map .string)) : ∃ a c, v = .slice a ns.length c ∧ c ≤ maxLen ∧ Sl w w.heap.size (.slice a ns.length c) (ns.map .string) := by
 have h1 := h.sl
 obtain ⟨a, c, hv, hc, hm, _⟩ := h
 simp only [List.length_map] at hv
 exact ⟨a, c, hv, hm, by rw [← hv]; exact h1⟩
theorem sl_below {w w' : World} {v : Value} {vs : List Value} (h : Sl w w.heap.size v vs) (hb : Below w.heap.size w w') : Sl w' w'.heap.size v vs := by
 obtain ⟨a, c, e, hc, hr⟩ := h
 refine ⟨a, c, e, hc, fun hne => ?_⟩
 obtain ⟨b, o, ha, hlt, hrd⟩ := hr hne
 refine ⟨b, o, ha, Nat.lt_of_lt_of_le hlt hb.size, fun i hi => ?_⟩
 rw [hb.cell (p := ⟨b, o + i, none⟩) hlt]
 exact hrd i hi
def BlPost (w : World) (e : Ending) (w' : World) : Prop := (∃ b : Bool, e = .returned (.bool b)) ∧ Below w.heap.size w w'
set_option maxHeartbeats 1600000 in
theorem zzFits1_any (nm : ByteArray) (l : List Tr) (sa : Option Addr) (sc : Nat) (o1 o2 o3 o4 o5 o6 : Bool) (w : World) : Calls Tryz.prog 4 #[.agg #[.string nm, .slice sa l.length sc, .bool o1, .bool o2, .bool o3, .bool o4, .bool o5, .bool o6]] w (BlPost w) := by
 have FB : Hid (∀ b : Bool, BlPost w (.returned (.bool b)) (w.alloc (.cells #[.string nm, .slice sa l.length sc, .bool o1, .bool o2, .bool o3, .bool o4, .bool o5, .bool o6] 26))) := Li (fun b => ⟨⟨b, rfl⟩, (Below.refl _ _).alloc (Nat.le_refl _) _⟩)
 by_cases h1 : (2147483647 : Int) < (nm.size : Int)
 · go_enter Tryz.func4, Tryz.ntmps4
   go_wp2_with fail
   go_ret
   exact FB.out _
 by_cases h2 : (2147483647 : Int) < (l.length : Int)
 · go_enter Tryz.func4, Tryz.ntmps4
   go_wp2_with fail
   go_ret
   exact FB.out _
 · go_enter Tryz.func4, Tryz.ntmps4
   go_wp2_with fail
   go_ret
   exact FB.out _
def LawPost (w : World) (e : Ending) (w' : World) : Prop := e = .returned (.bool true) ∧ Below w.heap.size w w'
set_option maxHeartbeats 12800000 in
theorem law_any {R : Nat → Nat → Option Value} (nm : ByteArray) (l : List Tr) (sa : Option Addr) (sc : Nat) (o1 o2 o3 o4 o5 o6 : Bool) (w : World) (ho : Old R w.heap.size w) (hl : StL R l (.slice sa l.length sc)) (hnm : nm.size ≤ maxLen) :
   Calls Tryz.prog 3 #[.agg #[.string nm, .slice sa l.length sc, .bool o1, .bool o2, .bool o3, .bool o4, .bool o5, .bool o6]] w (LawPost w) := by
 obtain ⟨W1, hW1⟩ : ∃ W1, W1 = w.alloc (.cells #[.string nm, .slice sa l.length sc, .bool o1, .bool o2, .bool o3, .bool o4, .bool o5, .bool o6] 26) := ⟨_, rfl⟩
 have b1 : Below w.heap.size w W1 := by rw [hW1]; exact (Below.refl _ _).alloc (Nat.le_refl _) _
 have F1 : Hid (Blk W1 w.heap.size 26 [.string nm, .slice sa l.length sc, .bool o1, .bool o2, .bool o3, .bool o4, .bool o5, .bool o6]) := Li (by rw [hW1]; exact Blk.new w _ _)
 have HB1 := Li b1
 have HO := Li ho
 have HL := Li hl
 have ZZ := Li (zzFits1_any nm l sa sc o1 o2 o3 o4 o5 o6 W1)
 clear b1 ho hl
 subst hW1
 go_enter Tryz.func3, Tryz.ntmps3
 go_wp2_with fail
 refine ZZ.out.mono ?_
 rintro e w2 ⟨⟨b2, rfl⟩, hb2⟩
 have F2 := Li (F1.out.below hb2 F1.out.lt)
 have HB2 := Li (HB1.out.trans (hb2.mono HB1.out.size))
 clear hb2 ZZ F1 HB1
 cases b2 with
 | false =>
   have FIN : Hid (LawPost w (.returned (.bool true)) w2) := Li ⟨rfl, HB2.out⟩
   clear F2 HB2 HO HL
   go_wp2_with fail
   go_ret
   exact FIN.out
 | true =>
   have FT := Li (fits_any R nm l sa sc o1 o2 o3 o4 o5 o6 w2 HL.out ((HO.out.below HB2.out).le HB2.out.size) hnm)
   have q0 := F2.out.cell 0 (by simp)
   have q1 := F2.out.cell 1 (by simp)
   have q2 := F2.out.cell 2 (by simp)
   have q3 := F2.out.cell 3 (by simp)
   have q4 := F2.out.cell 4 (by simp)
   have q5 := F2.out.cell 5 (by simp)
   have q6 := F2.out.cell 6 (by simp)
   have q7 := F2.out.cell 7 (by simp)
   go_wp2_with fail
   refine FT.out.mono ?_
   rintro e w3 ⟨b3, rfl, hP3, hb3⟩
   have F3 := Li (F2.out.below hb3 F2.out.lt)
   have HB3 := Li (HB2.out.trans (hb3.mono HB2.out.size))
   clear hb3 FT F2 HB2 q0 q1 q2 q3 q4 q5 q6 q7
   cases b3 with
   | false =>
     have FIN : Hid (LawPost w (.returned (.bool true)) w3) := Li ⟨rfl, HB3.out⟩
     clear F3 HB3 HO HL hP3
     go_wp2_with fail
     go_ret
     exact FIN.out
   | true =>
     obtain ⟨hok, hct⟩ := hP3 rfl
     have HOK := Li hok
     have PL := Li (plain_any R w.heap.size l sa sc w3 HL.out (HO.out.below HB3.out) HB3.out.size)
     have hct' : ctSs l ≤ 300 := by omega
     clear hP3 hok hct
     have q0 := F3.out.cell 0 (by simp)
     have q1 := F3.out.cell 1 (by simp)
     have q2 := F3.out.cell 2 (by simp)
     have q3 := F3.out.cell 3 (by simp)
     have q4 := F3.out.cell 4 (by simp)
     have q5 := F3.out.cell 5 (by simp)
     have q6 := F3.out.cell 6 (by simp)
     have q7 := F3.out.cell 7 (by simp)
     go_wp2_with fail
     refine PL.out.mono ?_
     rintro e w4 ⟨b4, rfl, hP4, hb4⟩
     have F4 := Li (F3.out.below hb4 F3.out.lt)
     have HB4 := Li (HB3.out.trans (hb4.mono HB3.out.size))
     clear hb4 PL F3 HB3 q0 q1 q2 q3 q4 q5 q6 q7
     cases b4 with
     | false =>
       have FIN : Hid (LawPost w (.returned (.bool true)) w4) := Li ⟨rfl, HB4.out⟩
       clear F4 HB4 HO HL hP4 HOK
       go_wp2_with fail
       go_ret
       exact FIN.out
     | true =>
       have HPL := Li (hP4 rfl)
       have WK := Li (Walk_any nm l sa sc o1 o2 o3 o4 o5 o6 w4 (HO.out.below HB4.out) HB4.out.size HL.out HOK.out HPL.out (by omega))
       clear hP4
       have q0 := F4.out.cell 0 (by simp)
       have q1 := F4.out.cell 1 (by simp)
       have q2 := F4.out.cell 2 (by simp)
       have q3 := F4.out.cell 3 (by simp)
       have q4 := F4.out.cell 4 (by simp)
       have q5 := F4.out.cell 5 (by simp)
       have q6 := F4.out.cell 6 (by simp)
       have q7 := F4.out.cell 7 (by simp)
       go_wp2_with fail
       refine WK.out.mono ?_
       rintro e w5 ⟨a5, k5, c5, rfl, hb5, hsl5, hk5, h5a, h5b⟩
       have F5 := Li (F4.out.below hb5 F4.out.lt)
       have HB5 := Li (HB4.out.trans (hb5.mono HB4.out.size))
       have SL5 := Li hsl5
       have hlen : (nmSs l).length ≤ 4096 := by omega
       have NM := Li (walkNames_any R w.heap.size l sa sc w5 HL.out (HO.out.below HB5.out) HB5.out.size hlen)
       clear hb5 hsl5 WK F4 HB4 q0 q1 q2 q3 q4 q5 q6 q7
       have q0 := F5.out.cell 0 (by simp)
       have q1 := F5.out.cell 1 (by simp)
       have q2 := F5.out.cell 2 (by simp)
       have q3 := F5.out.cell 3 (by simp)
       have q4 := F5.out.cell 4 (by simp)
       have q5 := F5.out.cell 5 (by simp)
       have q6 := F5.out.cell 6 (by simp)
       have q7 := F5.out.cell 7 (by simp)
       go_wp2_with fail
       refine NM.out.mono ?_
       rintro e w6 ⟨v6, rfl, hr6, hb6⟩
       have HB6 := Li (HB5.out.trans (hb6.mono HB5.out.size))
       obtain ⟨a6, k6, rfl, hk6, hsl6⟩ := rr_sl hr6
       have hsl5' : Sl w6 w6.heap.size (.slice a5 (nmSs l).length k5) ((nmSs l).map .string) := sl_below SL5.out hb6
       have SC := Li (scopeAlike_any (nmSs l) a5 a6 k5 k6 w6 hsl5' hsl6 (by omega) hk5 hk6)
       clear hr6 hb6 hsl6 hsl5' NM SL5 q0 q1 q2 q3 q4 q5 q6 q7 F5 HB5
       go_wp2_with fail
       refine SC.out.mono ?_
       rintro e w7 ⟨rfl, hb7⟩
       have FIN : Hid (LawPost w (.returned (.bool true)) w7) := Li ⟨rfl, HB6.out.trans (hb7.mono HB6.out.size)⟩
       have hd1 : ((c5 : Int) == (c5 : Int)) = true := beq_self_eq_true _
       have hd2 : decide (((nmSs l).length : Int) < (c5 : Int)) = true := decide_eq_true (by omega)
       have hd3 : decide ((nmSs l).length < c5) = true := decide_eq_true h5a
       clear hb7 SC HB6 HO HL HOK HPL
       go_wp2_with fail
       go_ret
       exact FIN.out
end Go.Proofs.YtoojgjhfmmohbaaGreat
