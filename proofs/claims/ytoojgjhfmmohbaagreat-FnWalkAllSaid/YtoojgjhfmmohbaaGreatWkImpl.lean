/- impl.walk, impl.Walk (printed by genwkimpl.py). -/
import Derived.Test.YtoojgjhfmmohbaaGreatMTree
import Derived.Test.YtoojgjhfmmohbaaGreatWkWalk3
namespace Go.Proofs.YtoojgjhfmmohbaaGreat
open Go.RowKit Dig
set_option linter.unusedVariables false
set_option linter.unusedSimpArgs false
set_option maxRecDepth 100000
def WalkPost (l : List Tr) (w : World) (e : Ending) (w' : World) : Prop :=
 ∃ a cc c, e = .returned (.tuple #[.slice a (nmSs l).length cc, .int .i64 ((c : Nat) : Int), .int .i64 ((c : Nat) : Int), .bool true]) ∧ Below w.heap.size w w' ∧ Sl w' w'.heap.size (.slice a (nmSs l).length cc) ((nmSs l).map .string) ∧ cc ≤ maxLen ∧ (nmSs l).length < c ∧ c ≤ 3 * ctSs l + 1
theorem sl_of_own {w : World} {base ty : Nat} {v : Value} {n : Nat} {xs : List Value} (h : w.ownsRow base ty 1 v n xs) (hn : xs.length = n) : ∃ a cc, v = .slice a n cc ∧ cc ≤ maxLen ∧ Sl w w.heap.size (.slice a n cc) xs := by
 subst hn
 rcases h.2 with ⟨rfl, h0⟩ | ⟨g, cap, cur, rfl, hb, hh, hn, hcm, hs, ht⟩
 · refine ⟨none, 0, by rw [h0], Nat.zero_le _, none, 0, rfl, by omega, fun hne => absurd (List.eq_nil_of_length_eq_zero h0) hne⟩
 · refine ⟨_, cap, rfl, hcm, _, cap, rfl, hn, fun _ => ⟨g, 0, rfl, heap_lt hh, fun i hi => ?_⟩⟩
   have hk : Blk w g ty cur.toList := by unfold Blk; rw [hh]
   have hl : i < cur.toList.length := by have := congrArg List.length ht; simp at this ⊢; omega
   rw [Nat.zero_add, hk.cell i hl]
   have e1 : xs[i]? = (cur.toList.take (xs.length * 1))[i]? := by rw [ht]
   rw [List.getElem?_take, if_pos (by omega)] at e1
   rw [List.getD_eq_getElem?_getD, List.getD_eq_getElem?_getD, e1]
structure SM (W W' : World) : Prop where
 os : W'.os = W.os
 tape : W'.tape = W.tape
 output : W'.output = W.output
 size : W'.heap.size = W.heap.size
 block : ∀ b : Nat, W'.heap[b]? = W.heap[b]?
theorem SM.set {W W' : World} {b ty : Nat} {v : Value} (h : SM W W') (hk : Blk W b ty [v]) : SM W (W'.setCell ⟨b, 0, none⟩ v) := by
 refine ⟨h.os, h.tape, h.output, by simpa [World.setCell] using h.size, fun x => ?_⟩
 by_cases hx : x = b
 · subst hx
   have h1 : Blk W' x ty [v] := (h.block x).trans hk
   have h2 := h1.set 0 v
   simp only [List.set_cons_zero] at h2
   exact h2.trans hk.symm
 · rw [Below.heap_setCell W' ⟨b, 0, none⟩ v x hx]; exact h.block x
theorem SM.below {W W' : World} (h : SM W W') (B : Nat) : Below B W W' := ⟨h.os, h.tape, h.output, by rw [h.size]; exact Nat.le_refl _, fun b _ => h.block b⟩
set_option maxHeartbeats 6400000 in
theorem walk_impl {R : Nat → Nat → Option Value} {B : Nat} (nm : ByteArray) (l : List Tr) (sa : Option Addr) (sc : Nat) (o1 o2 o3 o4 o5 o6 : Bool) (w : World) (ho : Old R B w) (hB : B ≤ w.heap.size) (hl : StL R l (.slice sa l.length sc)) (hok : ∀ t ∈ l, OkS t) (hpl : ∀ t ∈ l, PlS t) (hq : ctSs l ≤ 8192) :
   Calls Tryz.prog 11 #[.agg #[.string nm, .slice sa l.length sc, .bool o1, .bool o2, .bool o3, .bool o4, .bool o5, .bool o6], .int .i64 (-1)] w (WalkPost l w) := by
 have hmf : ∀ (fn : Fn) (first cap : Array Value) (w : World), (Instr.makeFunc fn first cap).run Tryz.prog w = .ok (.func fn first cap) w := fun _ _ _ _ => rfl
 obtain ⟨W1, hW1⟩ : ∃ W1, W1 = w.alloc (.cells #[.string nm, .slice sa l.length sc, .bool o1, .bool o2, .bool o3, .bool o4, .bool o5, .bool o6] 26) := ⟨_, rfl⟩
 have z1 : W1.heap.size = w.heap.size + 1 := by rw [hW1]; simp
 have b1 : Below w.heap.size w W1 := by rw [hW1]; exact (Below.refl _ _).alloc (Nat.le_refl _) _
 have F1 : Blk W1 w.heap.size 26 [.string nm, .slice sa l.length sc, .bool o1, .bool o2, .bool o3, .bool o4, .bool o5, .bool o6] := by rw [hW1]; exact Blk.new w _ _
 obtain ⟨W2, hW2⟩ : ∃ W2, W2 = W1.alloc (.cells #[.int .i64 (-1)] 3) := ⟨_, rfl⟩
 have b2 : Below W1.heap.size W1 W2 := by rw [hW2]; exact (Below.refl _ _).alloc (Nat.le_refl _) _
 have z2 : W2.heap.size = w.heap.size + 2 := by rw [hW2]; simp [z1]
 have D2 : Blk W2 (w.heap.size + 1) 3 [.int .i64 (-1)] := by rw [hW2, ← z1]; exact Blk.new W1 _ _
 obtain ⟨W3, hW3⟩ : ∃ W3, W3 = W2.alloc (.cells #[.slice none 0 0] 30) := ⟨_, rfl⟩
 have b3 : Below W2.heap.size W2 W3 := by rw [hW3]; exact (Below.refl _ _).alloc (Nat.le_refl _) _
 have z3 : W3.heap.size = w.heap.size + 3 := by rw [hW3]; simp [z2]
 have S3 : Blk W3 (w.heap.size + 2) 30 [.slice none 0 0] := by rw [hW3, ← z2]; exact Blk.new W2 _ _
 obtain ⟨W4, hW4⟩ : ∃ W4, W4 = W3.alloc (.cells #[.int .i64 0] 3) := ⟨_, rfl⟩
 have b4 : Below W3.heap.size W3 W4 := by rw [hW4]; exact (Below.refl _ _).alloc (Nat.le_refl _) _
 have z4 : W4.heap.size = w.heap.size + 4 := by rw [hW4]; simp [z3]
 have N4 : Blk W4 (w.heap.size + 3) 3 [.int .i64 0] := by rw [hW4, ← z3]; exact Blk.new W3 _ _
 obtain ⟨W5, hW5⟩ : ∃ W5, W5 = W4.alloc (.cells #[.int .i64 0] 3) := ⟨_, rfl⟩
 have b5 : Below W4.heap.size W4 W5 := by rw [hW5]; exact (Below.refl _ _).alloc (Nat.le_refl _) _
 have z5 : W5.heap.size = w.heap.size + 5 := by rw [hW5]; simp [z4]
 have E5 : Blk W5 (w.heap.size + 4) 3 [.int .i64 0] := by rw [hW5, ← z4]; exact Blk.new W4 _ _
 have hb5 : Below w.heap.size w W5 := (((b1.trans (b2.mono (by omega))).trans (b3.mono (by omega))).trans (b4.mono (by omega))).trans (b5.mono (by omega))
 have N5 := N4.below b5 N4.lt
 have S5 := (S3.below b4 S3.lt).below b5 (by omega)
 have D5 := ((D2.below b3 D2.lt).below b4 (by omega)).below b5 (by omega)
 have F5 := (((F1.below b2 F1.lt).below b3 (by omega)).below b4 (by omega)).below b5 (by omega)
 have TR := Li (tree_any nm l sa sc o1 o2 o3 o4 o5 o6 W5 (ho.below (hb5.mono hB)) (by omega) hl hok hpl hq)
 have HF5 := Li F5
 have HB5 := Li hb5
 have CS0 : Hid (∀ w6, Below W5.heap.size W5 w6 → CS W5.heap.size w6.heap.size (w.heap.size + 4) (w.heap.size + 3) (w.heap.size + 2) (w.heap.size + 1) [] 0 0 (.slice none 0 0) w6) := Li (fun w6 h6 => by
   have z6 := h6.size
   exact ⟨E5.below h6 E5.lt, N5.below h6 N5.lt, S5.below h6 S5.lt, D5.below h6 D5.lt, World.ownsRow_nil _ _ _ _, by omega, by omega, by simp⟩)
 have Z5 := Li z5
 have q0 := F5.cell 0 (by simp)
 have q1 := F5.cell 1 (by simp)
 have q2 := F5.cell 2 (by simp)
 have q3 := F5.cell 3 (by simp)
 have q4 := F5.cell 4 (by simp)
 have q5 := F5.cell 5 (by simp)
 have q6 := F5.cell 6 (by simp)
 have q7 := F5.cell 7 (by simp)
 clear z1 z2 z3 z4 z5 b1 b2 b3 b4 b5 F1 D2 S3 N4 E5 N5 S5 D5 F5 hb5 ho hl hok hpl
 subst hW1
 subst hW2
 subst hW3
 subst hW4
 subst hW5
 go_enter Tryz.func11, Tryz.ntmps11
 go_wp2_with fail
 refine TR.out.mono ?_
 rintro e w6 ⟨fb, bm, lo, ex, nm6, v6, vs6, c6, op6, rfl, hb6, hlo, hG6, hR6, hN6, hc6⟩
 have hcs6 := CS0.out w6 hb6
 have hold : Hold (fun b => if (((((w.alloc (.cells #[.string nm, .slice sa l.length sc, .bool o1, .bool o2, .bool o3, .bool o4, .bool o5, .bool o6] 26)).alloc (.cells #[.int .i64 (-1)] 3)).alloc (.cells #[.slice none 0 0] 30)).alloc (.cells #[.int .i64 0] 3)).alloc (.cells #[.int .i64 0] 3)).heap.size ≤ b then Gx w6 lo ex b else none) (((((w.alloc (.cells #[.string nm, .slice sa l.length sc, .bool o1, .bool o2, .bool o3, .bool o4, .bool o5, .bool o6] 26)).alloc (.cells #[.int .i64 (-1)] 3)).alloc (.cells #[.slice none 0 0] 30)).alloc (.cells #[.int .i64 0] 3)).alloc (.cells #[.int .i64 0] 3)).heap.size w6.heap.size w6 := fun b o hb => by
   dsimp only at hb
   split at hb
   · rename_i h1
     refine ⟨h1, ?_, ?_⟩
     · unfold Gx at hb
       split at hb
       · exact heap_lt hb
       · cases hb
     · unfold Gx at hb
       split at hb
       · exact hb
       · cases hb
   · cases hb
 have hgl : GLe (Gx w6 lo ex) (fun b => if (((((w.alloc (.cells #[.string nm, .slice sa l.length sc, .bool o1, .bool o2, .bool o3, .bool o4, .bool o5, .bool o6] 26)).alloc (.cells #[.int .i64 (-1)] 3)).alloc (.cells #[.slice none 0 0] 30)).alloc (.cells #[.int .i64 0] 3)).alloc (.cells #[.int .i64 0] 3)).heap.size ≤ b then Gx w6 lo ex b else none) := fun b o hb => by
   dsimp only
   rw [if_pos]
   · exact hb
   · unfold Gx at hb
     split at hb
     · rename_i h1; omega
     · cases hb
 have CW := Li (walk_file (hgl _ _ hG6) rfl (hR6.mono hgl) (hN6.mono hgl) w6 [] 0 0 _ hold hcs6 (by omega) (by omega))
 have hlen := hN6.len
 have HB6 := Li hb6
 clear hcs6 hold hgl hG6 hR6 hN6 CS0 TR q0 q1 q2 q3 q4 q5 q6 q7
 go_wp2_with fail
 refine CW.out.mono ?_
 rintro e w7 ⟨rfl, hs7, u7, hcs7⟩
 have hbw : Below w.heap.size w w7 := by
   have z6 := HB6.out.size
   have z5 := Z5.out
   refine (HB5.out.trans (HB6.out.mono (by omega))).trans ⟨hs7.os, hs7.tape, hs7.output, hs7.size, fun b hb => hs7.block b (by omega) (by omega) (by omega) (by omega)⟩
 obtain ⟨a7, k7, rfl, hk7, hsl7⟩ := sl_of_own hcs7.ho (by simp)
 simp only [List.nil_append, Nat.zero_add] at hsl7 hcs7
 have hkn : Blk w7 (w.heap.size + 1 + 1) 30 [.slice a7 (nmSs l).length k7] := hcs7.hs
 have hkc : Blk w7 (w.heap.size + 1 + 1 + 1) 3 [.int .i64 ((c6 + 1 : Nat) : Int)] := hcs7.hn
 have hke : Blk w7 (w.heap.size + 1 + 1 + 1 + 1) 3 [.int .i64 ((c6 + 1 : Nat) : Int)] := hcs7.he
 have H0 : Hid (SM w7 w7) := Li ⟨rfl, rfl, rfl, rfl, fun _ => rfl⟩
 have KD : Hid (∀ W, SM w7 W → SM w7 W.drew) := Li (fun W h => ⟨h.os, h.tape, h.output, h.size, h.block⟩)
 have KA : Hid (∀ W, SM w7 W → SM w7 (W.setCell ⟨w.heap.size + 1 + 1, 0, none⟩ (.slice a7 (nmSs l).length k7))) := Li (fun W h => h.set hkn)
 have KB : Hid (∀ W, SM w7 W → SM w7 (W.setCell ⟨w.heap.size + 1 + 1 + 1, 0, none⟩ (.int .i64 ((c6 : Int) + 1)))) := Li (fun W h => by have h0 := h.set hkc; simpa using h0)
 have KC : Hid (∀ W, SM w7 W → SM w7 (W.setCell ⟨w.heap.size + 1 + 1 + 1 + 1, 0, none⟩ (.int .i64 ((c6 : Int) + 1)))) := Li (fun W h => by have h0 := h.set hke; simpa using h0)
 have KS : Hid (∀ W, SM w7 W → W.cell? ⟨w.heap.size + 1 + 1, 0, none⟩ = some (.slice a7 (nmSs l).length k7) ∧ W.cell? ⟨w.heap.size + 1 + 1 + 1, 0, none⟩ = some (.int .i64 ((c6 : Int) + 1)) ∧ W.cell? ⟨w.heap.size + 1 + 1 + 1 + 1, 0, none⟩ = some (.int .i64 ((c6 : Int) + 1)) ∧ W.frozen? ⟨w.heap.size + 1 + 1, 0, none⟩ = false ∧ W.frozen? ⟨w.heap.size + 1 + 1 + 1, 0, none⟩ = false ∧ W.frozen? ⟨w.heap.size + 1 + 1 + 1 + 1, 0, none⟩ = false) := Li (fun W h => by
   have e1 : Blk W _ _ _ := (h.block _).trans hkn
   have e2 : Blk W _ _ _ := (h.block _).trans hkc
   have e3 : Blk W _ _ _ := (h.block _).trans hke
   exact ⟨e1.cell 0 (by simp), by have h0 := e2.cell 0 (by simp); simpa using h0, by have h0 := e3.cell 0 (by simp); simpa using h0, e1.free 0, e2.free 0, e3.free 0⟩)
 have FINW : Hid (∀ W, SM w7 W → (W.cell? ⟨w.heap.size + 1 + 1, 0, none⟩ = some (.slice a7 (nmSs l).length k7) ∧ W.cell? ⟨w.heap.size + 1 + 1 + 1, 0, none⟩ = some (.int .i64 ((c6 : Int) + 1)) ∧ W.cell? ⟨w.heap.size + 1 + 1 + 1 + 1, 0, none⟩ = some (.int .i64 ((c6 : Int) + 1))) ∧ WalkPost l w (.returned (.tuple #[.slice a7 (nmSs l).length k7, .int .i64 ((c6 : Int) + 1), .int .i64 ((c6 : Int) + 1), .bool true])) W) := Li (fun W h => by
   obtain ⟨r1, r2, r3, _⟩ := KS.out W h
   refine ⟨⟨r1, r2, r3⟩, a7, k7, c6 + 1, by simp, hbw.trans (Below.mono (h.below w7.heap.size) hbw.size), ?_, hk7, by omega, by omega⟩
   obtain ⟨a', c', e', hc', hr'⟩ := hsl7
   refine ⟨a', c', e', hc', fun hne => ?_⟩
   obtain ⟨b, o, ha, hb, hrd⟩ := hr' hne
   refine ⟨b, o, ha, by rw [h.size]; exact hb, fun i hi => ?_⟩
   rw [((h.below w7.heap.size).cell (p := ⟨b, o + i, none⟩) hb)]
   exact hrd i hi)
 have l1 := hkn.lt
 have l2 := hkc.lt
 have l3 := hke.lt
 clear hs7 hcs7 CW hsl7 hkn hkc hke hbw HB6 HB5 HF5 Z5
 go_upto_region 5 with fail
 go_region_held3 (fun W => W.cell? ⟨w.heap.size + 1 + 1, 0, none⟩ = some (.slice a7 (nmSs l).length k7) ∧ W.cell? ⟨w.heap.size + 1 + 1 + 1, 0, none⟩ = some (.int .i64 ((c6 : Int) + 1)) ∧ W.cell? ⟨w.heap.size + 1 + 1 + 1 + 1, 0, none⟩ = some (.int .i64 ((c6 : Int) + 1)) ∧ W.frozen? ⟨w.heap.size + 1 + 1, 0, none⟩ = false ∧ W.frozen? ⟨w.heap.size + 1 + 1 + 1, 0, none⟩ = false ∧ W.frozen? ⟨w.heap.size + 1 + 1 + 1 + 1, 0, none⟩ = false) (with_reducible first | exact KS.out _ (KD.out _ H0.out) | exact KS.out _ (KD.out _ (KA.out _ H0.out)) | exact KS.out _ (KD.out _ (KB.out _ H0.out)) | exact KS.out _ (KD.out _ (KC.out _ H0.out)) | exact KS.out _ (KD.out _ (KB.out _ (KA.out _ H0.out))) | exact KS.out _ (KD.out _ (KC.out _ (KA.out _ H0.out))) | exact KS.out _ (KD.out _ (KA.out _ (KB.out _ H0.out))) | exact KS.out _ (KD.out _ (KC.out _ (KB.out _ H0.out))) | exact KS.out _ (KD.out _ (KA.out _ (KC.out _ H0.out))) | exact KS.out _ (KD.out _ (KB.out _ (KC.out _ H0.out))) | exact KS.out _ (KD.out _ (KC.out _ (KB.out _ (KA.out _ H0.out)))) | exact KS.out _ (KD.out _ (KB.out _ (KC.out _ (KA.out _ H0.out)))) | exact KS.out _ (KD.out _ (KC.out _ (KA.out _ (KB.out _ H0.out)))) | exact KS.out _ (KD.out _ (KA.out _ (KC.out _ (KB.out _ H0.out)))) | exact KS.out _ (KD.out _ (KB.out _ (KA.out _ (KC.out _ H0.out)))) | exact KS.out _ (KD.out _ (KA.out _ (KB.out _ (KC.out _ H0.out)))) | fail) (fail)
 all_goals
   go_wp2_with fail
   obtain ⟨⟨r1, r2, r3⟩, fin⟩ := FINW.out _ (KD.out _ (KC.out _ (KB.out _ (KA.out _ H0.out))))
   exact bodyPost_ret (v := .tuple #[.slice a7 (nmSs l).length k7, .int .i64 ((c6 : Int) + 1), .int .i64 ((c6 : Int) + 1), .bool true]) (by simp [results, Tryz.results11, go_sem, r1, r2, r3]) rfl fin
end Go.Proofs.YtoojgjhfmmohbaaGreat
