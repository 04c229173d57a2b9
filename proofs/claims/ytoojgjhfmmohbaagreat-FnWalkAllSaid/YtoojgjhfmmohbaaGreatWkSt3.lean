/- maker.stmt: its frame (printed by genwkst4.py). -/
import Derived.Test.YtoojgjhfmmohbaaGreatWkSt2
import Derived.Deep.RegionHeld3
namespace Go.Proofs.YtoojgjhfmmohbaaGreat
open Go.RowKit Dig
set_option linter.unusedVariables false
set_option linter.unusedSimpArgs false
set_option maxRecDepth 100000
def WantPost3 (H bm bi bf qi qf qc : Nat) (w : World) (e : Ending) (w' : World) : Prop := e = .returned (.bool true) ∧ Stp w.heap.size w w' bm bi bf bi bf ∧ MK3 w' H bm bi bf qi qf qc
set_option maxHeartbeats 800000 in
theorem want3_any (H bm bi bf qi qf qc : Nat) (w : World) (h : MK3 w H bm bi bf qi qf qc) : Calls Tryz.prog 36 #[.pointer (some ⟨bm, 0, none⟩), .bool true] w (WantPost3 H bm bi bf qi qf qc w) := by
 obtain ⟨nm, cnt, line, vi, vf, ni, nf, xi, xf, hk, hi, hf, hq, h1, h2, hH⟩ := h
 have hl := hk.lt
 have c5 := hk.cell 5 (by simp)
 have f5 := hk.free 5
 have FIN : Hid (WantPost3 H bm bi bf qi qf qc w (.returned (.bool true)) (w.setCell ⟨bm, 5, none⟩ (.bool false))) := Li (by
   have hgs : w.grownBy (w.setCell ⟨bm, 5, none⟩ (.bool false)) (some bm) := ⟨rfl, rfl, rfl, by simp [World.setCell], fun b _ hne => Below.heap_setCell w ⟨bm, 5, none⟩ _ b (fun e => hne (by rw [e]))⟩
   refine ⟨rfl, ⟨rfl, rfl, rfl, by simp [World.setCell], fun b _ n1 _ _ => Below.heap_setCell w ⟨bm, 5, none⟩ _ b n1, .inl rfl, .inl rfl⟩, ?_⟩
   exact ⟨nm, cnt, line, vi, vf, ni, nf, xi, xf, by simpa using hk.set 5 (.bool false), hi.kept hgs (.inr (own_other hi hk (by decide))), hf.kept hgs (.inr (own_other hf hk (by decide))), hq, h1, h2, hH⟩)
 clear hk hi hf hq h1 h2
 go_enter Tryz.func36, Tryz.ntmps36
 go_wp2_with fail
 go_ret
 exact FIN.out
structure StK (H bm : Nat) (n : Int) (SS : List Value) (w W : World) (bi bf bi' bf' : Nat) : Prop where
 hmb : Blk W w.heap.size 50 [.pointer (some ⟨bm, 0, none⟩)]
 hsb : Blk W (w.heap.size + 1) 42 SS
 hob : Blk W (w.heap.size + 2) 21 [.int .i32 n]
 hfb : Blk W (w.heap.size + 3) 178 [.int .i64 1, .int .i64 2, .int .i64 2, .int .i64 0, .int .i64 1, .int .i64 2, .int .i64 1, .int .i64 0, .int .i64 0, .int .i64 0, .int .i64 0, .int .i64 0]
 hs : Stp w.heap.size w W bm bi bf bi' bf'
section
variable {H bm : Nat} {n : Int} {SS : List Value} {w W W2 : World} {bi bf bi' bf' bi2 bf2 q : Nat}
theorem StK.keep (h : StK H bm n SS w W bi bf bi' bf') (hm : MK W H bm bi' bf' q) (hs : Stp W.heap.size W W2 bm bi' bf' bi2 bf2) : StK H bm n SS w W2 bi bf bi2 bf2 := by
 obtain ⟨a1, a2, a3⟩ := hm.ne h.hmb (by decide) (by decide) (by decide)
 obtain ⟨b1, b2, b3⟩ := hm.ne h.hsb (by decide) (by decide) (by decide)
 obtain ⟨c1, c2, c3⟩ := hm.ne h.hob (by decide) (by decide) (by decide)
 obtain ⟨d1, d2, d3⟩ := hm.ne h.hfb (by decide) (by decide) (by decide)
 exact ⟨(hs.blk h.hmb h.hmb.lt a1 a2 a3).1, (hs.blk h.hsb h.hsb.lt b1 b2 b3).1, (hs.blk h.hob h.hob.lt c1 c2 c3).1, (hs.blk h.hfb h.hfb.lt d1 d2 d3).1, h.hs.trans (hs.mono h.hs.size)⟩
theorem st_start (hm : MK w H bm bi bf q) (h0 : 0 ≤ n) (h1 : n ≤ (q : Int) + 1) :
   MK3 ((((((w.setCell ⟨bm, 1, none⟩ (.int .i32 n)).alloc (.cells #[.pointer (some ⟨bm, 0, none⟩)] 50)).alloc (.cells SS.toArray 42)).alloc (.cells #[.int .i32 n] 21)).setCell ⟨bm, 2, none⟩ (.int .i32 n)).alloc (.cells #[.int .i64 1, .int .i64 2, .int .i64 2, .int .i64 0, .int .i64 1, .int .i64 2, .int .i64 1, .int .i64 0, .int .i64 0, .int .i64 0, .int .i64 0, .int .i64 0] 178)) H bm bi bf q q (q + 1) ∧
   StK H bm n SS w ((((((w.setCell ⟨bm, 1, none⟩ (.int .i32 n)).alloc (.cells #[.pointer (some ⟨bm, 0, none⟩)] 50)).alloc (.cells SS.toArray 42)).alloc (.cells #[.int .i32 n] 21)).setCell ⟨bm, 2, none⟩ (.int .i32 n)).alloc (.cells #[.int .i64 1, .int .i64 2, .int .i64 2, .int .i64 0, .int .i64 1, .int .i64 2, .int .i64 1, .int .i64 0, .int .i64 0, .int .i64 0, .int .i64 0, .int .i64 0] 178)) bi bf bi bf := by
 have hl := hm.lts
 have m1 : MK3 (w.setCell ⟨bm, 1, none⟩ (.int .i32 n)) H bm bi bf q q (q + 1) := MK3.set_cnt hm h0 h1
 obtain ⟨W1, hW1⟩ : ∃ W1, W1 = w.setCell ⟨bm, 1, none⟩ (.int .i32 n) := ⟨_, rfl⟩
 have z1 : W1.heap.size = w.heap.size := by rw [hW1]; simp [World.setCell]
 have s1 : Stp w.heap.size w W1 bm bi bf bi bf := by rw [hW1]; exact Stp.set_m _
 rw [← hW1] at m1 ⊢
 clear hW1
 obtain ⟨W2, hW2⟩ : ∃ W2, W2 = W1.alloc (.cells #[.pointer (some ⟨bm, 0, none⟩)] 50) := ⟨_, rfl⟩
 have b2 : Below W1.heap.size W1 W2 := by rw [hW2]; exact (Below.refl _ _).alloc (Nat.le_refl _) _
 have x2 : Blk W2 w.heap.size 50 [.pointer (some ⟨bm, 0, none⟩)] := by rw [hW2, ← z1]; exact Blk.new W1 _ _
 have z2 : W2.heap.size = w.heap.size + 1 := by rw [hW2]; simp [z1]
 rw [← hW2]
 obtain ⟨W3, hW3⟩ : ∃ W3, W3 = W2.alloc (.cells SS.toArray 42) := ⟨_, rfl⟩
 have b3 : Below W2.heap.size W2 W3 := by rw [hW3]; exact (Below.refl _ _).alloc (Nat.le_refl _) _
 have y3 : Blk W3 (w.heap.size + 1) 42 SS := by rw [hW3, ← z2]; exact Blk.new W2 _ _
 have z3 : W3.heap.size = w.heap.size + 2 := by rw [hW3]; simp [z2]
 rw [← hW3]
 obtain ⟨W4, hW4⟩ : ∃ W4, W4 = W3.alloc (.cells #[.int .i32 n] 21) := ⟨_, rfl⟩
 have b4 : Below W3.heap.size W3 W4 := by rw [hW4]; exact (Below.refl _ _).alloc (Nat.le_refl _) _
 have o4 : Blk W4 (w.heap.size + 2) 21 [.int .i32 n] := by rw [hW4, ← z3]; exact Blk.new W3 _ _
 have z4 : W4.heap.size = w.heap.size + 3 := by rw [hW4]; simp [z3]
 rw [← hW4]
 clear hW2 hW3 hW4
 have m4 : MK3 W4 H bm bi bf q q (q + 1) := ((m1.below b2).below b3).below b4
 have m5 : MK3 (W4.setCell ⟨bm, 2, none⟩ (.int .i32 n)) H bm bi bf q q (q + 1) := m4.set_line h0 (by omega)
 have x4 := (x2.below b3 x2.lt).below b4 (by omega)
 have y4 := y3.below b4 y3.lt
 have z5 : (W4.setCell ⟨bm, 2, none⟩ (.int .i32 n)).heap.size = w.heap.size + 3 := by simp [World.setCell, z4]
 obtain ⟨W5, hW5⟩ : ∃ W5, W5 = W4.setCell ⟨bm, 2, none⟩ (.int .i32 n) := ⟨_, rfl⟩
 have s5 : Stp w.heap.size W4 W5 bm bi bf bi bf := by rw [hW5]; exact Stp.set_m _
 have x5 : Blk W5 w.heap.size 50 [.pointer (some ⟨bm, 0, none⟩)] := by rw [hW5]; exact x4.far (by show w.heap.size ≠ bm; omega) _
 have y5 : Blk W5 (w.heap.size + 1) 42 SS := by rw [hW5]; exact y4.far (by show w.heap.size + 1 ≠ bm; omega) _
 have o5 : Blk W5 (w.heap.size + 2) 21 [.int .i32 n] := by rw [hW5]; exact o4.far (by show w.heap.size + 2 ≠ bm; omega) _
 rw [← hW5] at m5 z5 ⊢
 clear hW5
 have b6 : Below W5.heap.size W5 (W5.alloc (.cells #[.int .i64 1, .int .i64 2, .int .i64 2, .int .i64 0, .int .i64 1, .int .i64 2, .int .i64 1, .int .i64 0, .int .i64 0, .int .i64 0, .int .i64 0, .int .i64 0] 178)) := (Below.refl _ _).alloc (Nat.le_refl _) _
 refine ⟨m5.below b6, x5.alloc _, y5.alloc _, o5.alloc _, by rw [← z5]; exact Blk.new W5 _ _, ?_⟩
 exact (s1.trans (Stp.of_below (((b2.mono (by omega)).trans (b3.mono (by omega))).trans (b4.mono (by omega))))).trans (s5.trans (Stp.of_below (b6.mono (by omega))))
theorem StK.close (h : StK H bm n SS w W bi bf bi bf) {N : Nat} {ns : List ByteArray} {e : Ending} {wF : World} {q' : Nat} (hm : MK W H bm bi bf q') (hp : MPost H bm bi bf q N ns W e wF) (h0 : 0 ≤ n) (h1 : n ≤ (q : Int) + N) (hl : bm < w.heap.size) :
   ∃ y : Int, wF.cell? ⟨w.heap.size + 2, 0, none⟩ = some (.int .i32 n) ∧ wF.cell? ⟨w.heap.size, 0, none⟩ = some (.pointer (some ⟨bm, 0, none⟩)) ∧ wF.cell? ⟨bm, 2, none⟩ = some (.int .i32 y) ∧ wF.frozen? ⟨bm, 2, none⟩ = false ∧ bm < wF.heap.size ∧ MPost H bm bi bf q N ns w e (wF.setCell ⟨bm, 2, none⟩ (.int .i32 n)) := by
 obtain ⟨T, b, c, bi', bf', he, hs4, hm4, hn4, hc4⟩ := hp
 have hk := h.keep hm hs4
 have hmm := hm4
 obtain ⟨nm, cnt, line, vi, vf, ni, nf, xi, xf, hb, _⟩ := hmm
 exact ⟨line, hk.hob.cell 0 (by simp), hk.hmb.cell 0 (by simp), hb.cell 2 (by simp), hb.free 2, hb.lt, (MPost.pre ⟨T, b, c, bi', bf', he, hs4, hm4, hn4, hc4⟩ h.hs).line hl h0 h1⟩
end
theorem st_nxt {H bm bi bf q pb : Nat} {cn ln : Int} {SS : List Value} {w W W2 : World} (h1 : StK H bm cn SS w W bi bf bi bf) (h2 : Blk W pb 63 [.pointer (some ⟨bm, 0, none⟩), .int .i32 ln, .int .i32 1]) (h3 : MK3 W H bm bi bf q q (q + 1)) (h4 : Stp W.heap.size W W2 bm bi bf bi bf) (h5 : MK3 W2 H bm bi bf q q (q + 1)) :
   StK H bm cn SS w W2 bi bf bi bf ∧ Blk W2 pb 63 [.pointer (some ⟨bm, 0, none⟩), .int .i32 ln, .int .i32 1] ∧ Calls Tryz.prog 36 #[.pointer (some ⟨bm, 0, none⟩), .bool true] W2 (WantPost3 H bm bi bf q q (q + 1) W2) := by
 have hmk : MK W H bm bi bf (q + 1) := h3.to (by omega) (by omega) (by omega)
 obtain ⟨a1, a2, a3⟩ := hmk.ne h2 (by decide) (by decide) (by decide)
 exact ⟨h1.keep hmk h4, (h4.blk h2 h2.lt a1 a2 a3).1, want3_any H bm bi bf q q (q + 1) W2 h5⟩
end Go.Proofs.YtoojgjhfmmohbaaGreat
