/- The maker with three bounds; maker.ident, maker.def (printed by genwkst3.py). -/
import Derived.Test.YtoojgjhfmmohbaaGreatWkSt1
namespace Go.Proofs.YtoojgjhfmmohbaaGreat
open Go.RowKit Dig
set_option linter.unusedVariables false
set_option linter.unusedSimpArgs false
set_option maxRecDepth 100000
def MK3 (w : World) (H bm bi bf qi qf qc : Nat) : Prop :=
 ∃ (name : ByteArray) (cnt line : Int) (vi vf : Value) (ni nf : Nat) (xi xf : List Value), Blk w bm 83 [.string name, .int .i32 cnt, .int .i32 line, vi, vf, .bool false] ∧ w.ownsRow H 56 1 vi ni xi ∧ w.ownsRow H 55 1 vf nf xf ∧ (ni ≤ qi ∧ nf ≤ qf ∧ 0 ≤ cnt ∧ cnt ≤ qc ∧ 0 ≤ line ∧ line ≤ qc) ∧
   (vi.ownBlock = some bi ∨ (vi.ownBlock = none ∧ bi = bm)) ∧ (vf.ownBlock = some bf ∨ (vf.ownBlock = none ∧ bf = bm)) ∧ H ≤ bm
section
variable {w w' : World} {H bm bi bf qi qf qc q : Nat}
theorem MK3.to (h : MK3 w H bm bi bf qi qf qc) (h1 : qi ≤ q) (h2 : qf ≤ q) (h3 : qc ≤ q) : MK w H bm bi bf q := by
 obtain ⟨nm, cnt, line, vi, vf, ni, nf, xi, xf, hk, hi, hf, hb, e1, e2, hH⟩ := h
 exact ⟨nm, cnt, line, vi, vf, ni, nf, xi, xf, hk, hi, hf, by omega, e1, e2, hH⟩
theorem MK3.mk (h : MK3 w H bm bi bf qi qf qc) : MK w H bm bi bf (qi + qf + qc) := h.to (by omega) (by omega) (by omega)
theorem MK3.of (h : MK w H bm bi bf q) : MK3 w H bm bi bf q q q := h
theorem MK3.below (h : MK3 w H bm bi bf qi qf qc) (hb : Below w.heap.size w w') : MK3 w' H bm bi bf qi qf qc := by
 obtain ⟨nm, cnt, line, vi, vf, ni, nf, xi, xf, hk, hi, hf, hq, h1, h2, hH⟩ := h
 exact ⟨nm, cnt, line, vi, vf, ni, nf, xi, xf, hk.below hb hk.lt, own_below hi hb, own_below hf hb, hq, h1, h2, hH⟩
theorem MK3.set_cnt (h : MK w H bm bi bf q) {n : Int} (h0 : 0 ≤ n) (h1 : n ≤ (q : Int) + 1) : MK3 (w.setCell ⟨bm, 1, none⟩ (.int .i32 n)) H bm bi bf q q (q + 1) := by
 obtain ⟨nm, cnt, line, vi, vf, ni, nf, xi, xf, hk, hi, hf, hb, e1, e2, hH⟩ := h
 have hgs : w.grownBy (w.setCell ⟨bm, 1, none⟩ (.int .i32 n)) (some bm) := ⟨rfl, rfl, rfl, by simp [World.setCell], fun b _ hne => Below.heap_setCell w ⟨bm, 1, none⟩ _ b (fun e => hne (by rw [e]))⟩
 exact ⟨nm, n, line, vi, vf, ni, nf, xi, xf, by simpa using hk.set 1 (.int .i32 n), hi.kept hgs (.inr (own_other hi hk (by decide))), hf.kept hgs (.inr (own_other hf hk (by decide))), by omega, e1, e2, hH⟩
theorem MK3.set_line (h : MK3 w H bm bi bf qi qf qc) {n : Int} (h0 : 0 ≤ n) (h1 : n ≤ qc) : MK3 (w.setCell ⟨bm, 2, none⟩ (.int .i32 n)) H bm bi bf qi qf qc := by
 obtain ⟨nm, cnt, line, vi, vf, ni, nf, xi, xf, hk, hi, hf, hb, e1, e2, hH⟩ := h
 have hgs : w.grownBy (w.setCell ⟨bm, 2, none⟩ (.int .i32 n)) (some bm) := ⟨rfl, rfl, rfl, by simp [World.setCell], fun b _ hne => Below.heap_setCell w ⟨bm, 2, none⟩ _ b (fun e => hne (by rw [e]))⟩
 exact ⟨nm, cnt, n, vi, vf, ni, nf, xi, xf, by simpa using hk.set 2 (.int .i32 n), hi.kept hgs (.inr (own_other hi hk (by decide))), hf.kept hgs (.inr (own_other hf hk (by decide))), by omega, e1, e2, hH⟩
end
theorem MK3.app_i {w w3 w4 : World} {H bm bi bf qi qf qc : Nat} {name : ByteArray} {cnt line : Int} {vi vf v' : Value} {ni nf n' : Nat} {xi xf x' : List Value} (hb3 : Below w.heap.size w w3)
   (hk : Blk w bm 83 [.string name, .int .i32 cnt, .int .i32 line, vi, vf, .bool false]) (hi : w.ownsRow H 56 1 vi ni xi) (hf : w.ownsRow H 55 1 vf nf xf) (hq : ni ≤ qi ∧ nf ≤ qf ∧ 0 ≤ cnt ∧ cnt ≤ qc ∧ 0 ≤ line ∧ line ≤ qc)
   (h1 : vi.ownBlock = some bi ∨ (vi.ownBlock = none ∧ bi = bm)) (h2 : vf.ownBlock = some bf ∨ (vf.ownBlock = none ∧ bf = bm)) (hH : H ≤ bm) (hn : n' ≤ ni + 1)
   (hi4 : w4.ownsRow H 56 1 v' n' x') (hg : w3.grownBy w4 vi.ownBlock) (hv : v'.ownBlock = vi.ownBlock ∨ v'.ownBlock = some w3.heap.size) :
   ∃ bi', Stp w.heap.size w (w4.setCell ⟨bm, 3, none⟩ v') bm bi bf bi' bf ∧ MK3 (w4.setCell ⟨bm, 3, none⟩ v') H bm bi' bf (qi + 1) qf qc ∧ ∀ b e L, w.heap.size ≤ b → Blk w3 b e L → Blk (w4.setCell ⟨bm, 3, none⟩ v') b e L ∧ b ≠ bi' ∧ b ≠ bf := by
 have hk3 := hk.below hb3 hk.lt
 have hi3 := own_below hi hb3
 have hf3 := own_below hf hb3
 have hk4 : Blk w4 bm 83 _ := hk3.far_own hi3 (by decide) hg
 have hf4 : w4.ownsRow H 55 1 vf nf xf := hf3.kept hg (own_two hi3 hf3 (by decide))
 have hl := hk.lt
 have hs3 := hb3.size
 have hs4 := hg.size
 have hk5 := hk4.set 3 v'
 have hset : ∀ b, b ≠ bm → (w4.setCell ⟨bm, 3, none⟩ v').heap[b]? = w4.heap[b]? := fun b hne => Below.heap_setCell w4 ⟨bm, 3, none⟩ v' b hne
 have hgs : w4.grownBy (w4.setCell ⟨bm, 3, none⟩ v') (some bm) := ⟨rfl, rfl, rfl, by simp [World.setCell], fun b _ hne => hset b (fun e => hne (by rw [e]))⟩
 have hi5 : (w4.setCell ⟨bm, 3, none⟩ v').ownsRow H 56 1 v' n' x' := hi4.kept hgs (.inr (own_other hi4 hk4 (by decide)))
 have hf5 : (w4.setCell ⟨bm, 3, none⟩ v').ownsRow H 55 1 vf nf xf := hf4.kept hgs (.inr (own_other hf4 hk4 (by decide)))
 have hbf : bf < w.heap.size := by
   rcases h2 with h2 | ⟨_, rfl⟩
   · exact (hf.lt _ h2).2
   · exact hl
 obtain ⟨bi', hbi, hov⟩ : ∃ bi', (bi' = bi ∨ w3.heap.size ≤ bi') ∧ (v'.ownBlock = some bi' ∨ (v'.ownBlock = none ∧ bi' = bm)) := by
   rcases hv with hv | hv
   · exact ⟨bi, .inl rfl, by rw [hv]; exact h1⟩
   · exact ⟨w3.heap.size, .inr (Nat.le_refl _), .inl hv⟩
 have hblk : ∀ b, b < w3.heap.size → b ≠ bm → b ≠ bi → (w4.setCell ⟨bm, 3, none⟩ v').heap[b]? = w3.heap[b]? := fun b hb hne hne2 => by
   rw [hset b hne, hg.block b hb (fun e => by
     rcases h1 with h1 | ⟨h1, _⟩
     · rw [h1] at e; injection e with e; exact hne2 e
     · rw [h1] at e; cases e)]
 have hbil : bi < w.heap.size := by
   rcases h1 with h1 | ⟨_, rfl⟩
   · exact (hi.lt _ h1).2
   · exact hl
 refine ⟨bi', ⟨hg.os.trans hb3.os, hg.tape.trans hb3.tape, hg.output.trans hb3.output, by simp [World.setCell]; omega, fun b hb n1 n2 n3 => ?_, by rcases hbi with e | e <;> omega, .inl rfl⟩, ?_, fun b e L hb hB => ?_⟩
 · rw [hblk b (by omega) n1 n2]; exact hb3.block b hb
 · exact ⟨name, cnt, line, v', vf, n', nf, x', xf, by simpa using hk5, hi5, hf5, by omega, hov, h2, hH⟩
 · have hlt := hB.lt
   exact ⟨(hblk b hlt (by omega) (by omega)).trans hB, by rcases hbi with e | e <;> omega, by omega⟩
theorem MK3.app_f {w w3 w4 : World} {H bm bi bf qi qf qc : Nat} {name : ByteArray} {cnt line : Int} {vi vf v' : Value} {ni nf n' : Nat} {xi xf x' : List Value} (hb3 : Below w.heap.size w w3)
   (hk : Blk w bm 83 [.string name, .int .i32 cnt, .int .i32 line, vi, vf, .bool false]) (hi : w.ownsRow H 56 1 vi ni xi) (hf : w.ownsRow H 55 1 vf nf xf) (hq : ni ≤ qi ∧ nf ≤ qf ∧ 0 ≤ cnt ∧ cnt ≤ qc ∧ 0 ≤ line ∧ line ≤ qc)
   (h1 : vi.ownBlock = some bi ∨ (vi.ownBlock = none ∧ bi = bm)) (h2 : vf.ownBlock = some bf ∨ (vf.ownBlock = none ∧ bf = bm)) (hH : H ≤ bm) (hn : n' ≤ nf + 1)
   (hf4 : w4.ownsRow H 55 1 v' n' x') (hg : w3.grownBy w4 vf.ownBlock) (hv : v'.ownBlock = vf.ownBlock ∨ v'.ownBlock = some w3.heap.size) :
   ∃ bf', Stp w.heap.size w (w4.setCell ⟨bm, 4, none⟩ v') bm bi bf bi bf' ∧ MK3 (w4.setCell ⟨bm, 4, none⟩ v') H bm bi bf' qi (qf + 1) qc ∧ ∀ b e L, w.heap.size ≤ b → Blk w3 b e L → Blk (w4.setCell ⟨bm, 4, none⟩ v') b e L ∧ b ≠ bi ∧ b ≠ bf' := by
 have hk3 := hk.below hb3 hk.lt
 have hi3 := own_below hi hb3
 have hf3 := own_below hf hb3
 have hk4 : Blk w4 bm 83 _ := hk3.far_own hf3 (by decide) hg
 have hi4 : w4.ownsRow H 56 1 vi ni xi := hi3.kept hg (own_two hf3 hi3 (by decide))
 have hl := hk.lt
 have hs3 := hb3.size
 have hs4 := hg.size
 have hk5 := hk4.set 4 v'
 have hset : ∀ b, b ≠ bm → (w4.setCell ⟨bm, 4, none⟩ v').heap[b]? = w4.heap[b]? := fun b hne => Below.heap_setCell w4 ⟨bm, 4, none⟩ v' b hne
 have hgs : w4.grownBy (w4.setCell ⟨bm, 4, none⟩ v') (some bm) := ⟨rfl, rfl, rfl, by simp [World.setCell], fun b _ hne => hset b (fun e => hne (by rw [e]))⟩
 have hi5 : (w4.setCell ⟨bm, 4, none⟩ v').ownsRow H 56 1 vi ni xi := hi4.kept hgs (.inr (own_other hi4 hk4 (by decide)))
 have hf5 : (w4.setCell ⟨bm, 4, none⟩ v').ownsRow H 55 1 v' n' x' := hf4.kept hgs (.inr (own_other hf4 hk4 (by decide)))
 have hbi : bi < w.heap.size := by
   rcases h1 with h1 | ⟨_, rfl⟩
   · exact (hi.lt _ h1).2
   · exact hl
 obtain ⟨bf', hbf, hov⟩ : ∃ bf', (bf' = bf ∨ w3.heap.size ≤ bf') ∧ (v'.ownBlock = some bf' ∨ (v'.ownBlock = none ∧ bf' = bm)) := by
   rcases hv with hv | hv
   · exact ⟨bf, .inl rfl, by rw [hv]; exact h2⟩
   · exact ⟨w3.heap.size, .inr (Nat.le_refl _), .inl hv⟩
 have hblk : ∀ b, b < w3.heap.size → b ≠ bm → b ≠ bf → (w4.setCell ⟨bm, 4, none⟩ v').heap[b]? = w3.heap[b]? := fun b hb hne hne2 => by
   rw [hset b hne, hg.block b hb (fun e => by
     rcases h2 with h2 | ⟨h2, _⟩
     · rw [h2] at e; injection e with e; exact hne2 e
     · rw [h2] at e; cases e)]
 have hbfl : bf < w.heap.size := by
   rcases h2 with h2 | ⟨_, rfl⟩
   · exact (hf.lt _ h2).2
   · exact hl
 refine ⟨bf', ⟨hg.os.trans hb3.os, hg.tape.trans hb3.tape, hg.output.trans hb3.output, by simp [World.setCell]; omega, fun b hb n1 n2 n3 => ?_, .inl rfl, by rcases hbf with e | e <;> omega⟩, ?_, fun b e L hb hB => ?_⟩
 · rw [hblk b (by omega) n1 n3]; exact hb3.block b hb
 · exact ⟨name, cnt, line, vi, v', ni, n', xi, x', by simpa using hk5, hi5, hf5, by omega, h1, hov, hH⟩
 · have hlt := hB.lt
   exact ⟨(hblk b hlt (by omega) (by omega)).trans hB, by omega, by rcases hbf with e | e <;> omega⟩
def IdPost3 (H bm bi bf qi qf qc : Nat) (name : ByteArray) (w : World) (e : Ending) (w' : World) : Prop :=
 ∃ ib bi', e = .returned (.pointer (some ⟨ib, 0, none⟩)) ∧ Stp w.heap.size w w' bm bi bf bi' bf ∧ MK3 w' H bm bi' bf (qi + 1) qf qc ∧ Nd (Gx w' w.heap.size [bi', bf]) (.iface 56 (.pointer (some ⟨ib, 0, none⟩))) [name] 1 ∧ w.heap.size ≤ ib ∧ ib < w'.heap.size
set_option maxHeartbeats 1600000 in
theorem ident3_any (H bm bi bf qi qf qc : Nat) (name : ByteArray) (w : World) (h : MK3 w H bm bi bf qi qf qc) (hq0 : qi ≤ 8192) : Calls Tryz.prog 42 #[.pointer (some ⟨bm, 0, none⟩), .string name] w (IdPost3 H bm bi bf qi qf qc name w) := by
 obtain ⟨iI, hiI, hzI, hsI, hbI⟩ := info_parts infoId
 have HP := Li (pos_any H bm bi bf _ w h.mk)
 obtain ⟨nm, cnt, line, vi, vf, ni, nf, xi, xf, hk, hi, hf, hq, h1, h2, hH⟩ := h
 have hl := hk.lt
 obtain ⟨ia, ic, rfl⟩ := own_form hi
 obtain ⟨fa, fc, rfl⟩ := own_form hf
 have HK := Li hk
 have HI := Li hi
 have HF := Li hf
 have H1 := Li h1
 have H2 := Li h2
 have hHw : H ≤ w.heap.size := by omega
 clear hk hi hf h1 h2
 go_enter Tryz.func42, Tryz.ntmps42
 go_wp2_with fail
 refine HP.out.mono ?_
 rintro e w1 ⟨ln, rfl, hb1⟩
 obtain ⟨ib, hib⟩ : ∃ ib, w1.heap.size = ib := ⟨_, rfl⟩
 have hs1 := hb1.size
 obtain ⟨W2, hW2⟩ : ∃ W2, W2 = (w1.alloc (.cells #[.pointer none, .pointer (some ⟨bm, 0, none⟩), .int .i32 ln, .int .i32 1, .string name, .nilIface] 65)).alloc (.cells #[.pointer (some ⟨ib, 0, none⟩)] 56) := ⟨_, rfl⟩
 have hb2 : Below w.heap.size w W2 := by rw [hW2]; exact (hb1.alloc hs1 _).alloc (by simp; omega) _
 have E2 : Blk W2 ib 65 [.pointer none, .pointer (some ⟨bm, 0, none⟩), .int .i32 ln, .int .i32 1, .string name, .nilIface] := by
   rw [hW2, ← hib]; exact (Blk.new w1 _ _).alloc _
 have SL2 : Hid (Sl W2 (ib + 2) (.slice (some ⟨ib + 1, 0, none⟩) 1 1) [.pointer (some ⟨ib, 0, none⟩)]) := Li (by rw [hW2]; exact Sl.one _ _ _ (by simp; omega))
 have OWN2 := Li (own_below HI.out hb2)
 have HB2 := Li hb2
 have HE2 := Li E2
 have KC : Hid (∀ w4 : World, W2.grownBy w4 (Value.slice ia ni ic).ownBlock → w4.cell? ⟨bm, 3, none⟩ = some (.slice ia ni ic) ∧ w4.frozen? ⟨bm, 3, none⟩ = false ∧ bm < w4.heap.size) := Li (fun w4 hg => by
   have hk4 := (HK.out.below hb2 HK.out.lt).far_own OWN2.out (by decide) hg
   exact ⟨hk4.cell 3 (by simp), hk4.free 3, hk4.lt⟩)
 have m3 : W2.cell? ⟨bm, 3, none⟩ = some (.slice ia ni ic) := (HK.out.below hb2 HK.out.lt).cell 3 (by simp)
 have m3' : (w1.alloc (.cells #[.pointer none, .pointer (some ⟨bm, 0, none⟩), .int .i32 ln, .int .i32 1, .string name, .nilIface] 65)).cell? ⟨bm, 3, none⟩ = some (.slice ia ni ic) := ((HK.out.below hb1 HK.out.lt).alloc _).cell 3 (by simp)
 have hlW : bm < W2.heap.size := by have := hb2.size; omega
 have FIN : Hid (∀ v' w4 n' x', w4.ownsRow H 56 1 v' n' x' → n' ≤ ni + 1 → W2.grownBy w4 (Value.slice ia ni ic).ownBlock → (v'.ownBlock = (Value.slice ia ni ic).ownBlock ∨ v'.ownBlock = some W2.heap.size) → IdPost3 H bm bi bf qi qf qc name w (.returned (.pointer (some ⟨ib, 0, none⟩))) (w4.setCell ⟨bm, 3, none⟩ v')) := Li (fun v' w4 n' x' g1 g0 g2 g3 => by
   obtain ⟨bi', s1, s2, s3⟩ := MK3.app_i hb2 HK.out HI.out HF.out hq H1.out H2.out hH g0 g1 g2 g3
   obtain ⟨e5, n1, n2⟩ := s3 ib _ _ (by omega) E2
   exact ⟨ib, bi', rfl, s1, s2, .ident ib _ name (Gx.of e5 (by omega) (by simp; exact ⟨n1, n2⟩)) rfl, by omega, e5.lt⟩)
 clear hb1 hb2 E2 HP
 subst hW2
 have HBW : Hid (H ≤ ((w1.alloc (.cells #[.pointer none, .pointer (some ⟨bm, 0, none⟩), .int .i32 ln, .int .i32 1, .string name, .nilIface] 65)).alloc (.cells #[.pointer (some ⟨ib, 0, none⟩)] 56)).heap.size) := Li (by simp; omega)
 have HQ := Li hq
 clear hq
 go_wp2_with (at_builtin; refine wpList_append_to _ rfl (.tmp 15) (.tmp 17) 80 rfl H 56 iI _ 8 Tryz.underlying80 hiI hzI hsI hbI rfl (.slice ia ni ic) ni _ rfl OWN2.out _ _ _ rfl SL2.out (by intro u hu; simp at hu; subst hu; rfl) (by have := HQ.out; unfold maxLen; simp; omega) (by have := HQ.out; simp; omega) HBW.out ?_; intro v4 w4 g1 g2 g3; have FS := Li (FIN.out v4 w4 _ _ g1 (by simp) g2 g3); obtain ⟨r1, r2, r3⟩ := KC.out w4 g2; obtain ⟨a4, k4, hv4⟩ := own_form g1; subst hv4; clear g1 g2 g3)
 go_ret
 exact FS.out
theorem Bld.startN {H bm bi bf q pb eb : Nat} {ln : Int} {e et : TypeId} {L EE : List Value} {i : Nat} {w W w4 : World} {m : Nat} {p : Option Addr} {ns : List ByteArray} {bi4 bf4 : Nat} (t1 : Fr e) (t2 : Fr et) (hW : Stp w.heap.size w W bm bi bf bi bf) (hs : Stp W.heap.size W w4 bm bi bf bi4 bf4) (hm : MK w4 H bm bi4 bf4 (q + m)) (hn : Nd (Gx w4 W.heap.size [bi4, bf4]) (.iface 56 (.pointer p)) ns 1) (hl : bm < w.heap.size)
   (hp : Blk w4 pb 63 [.pointer (some ⟨bm, 0, none⟩), .int .i32 ln, .int .i32 1]) (he : Blk w4 eb et EE) (hi : L[i]? = some (.pointer p)) : Bld H bm bi bf q w4.heap.size pb eb ln e et L EE [(i, .n)] w 0 m [.iface 56 (.pointer p)] ns 1 bi4 bf4 (w4.alloc (.cells L.toArray e)) := by
 have hz := hW.size
 have hz4 := hs.size
 have hbx : Below w4.heap.size w4 (w4.alloc (.cells L.toArray e)) := (Below.refl _ _).alloc (Nat.le_refl _) _
 refine ⟨Blk.new w4 _ _, hp.alloc _, he.alloc _, (hW.trans (hs.mono hz)).trans (Stp.of_below (hbx.mono (by omega))), hm.below hbx, .n i p _ _ hi .nil, Nds.one (hn.mono (Gx.le hz fun b h1 h2 h3 => ?_)), by omega, by omega, hl, t1, t2, by have := hp.lt; omega, by have := he.lt; omega⟩
 exact ⟨by simp at h3 ⊢; omega, hbx.block b h2⟩
theorem fr_def : Fr 108 := by unfold Fr; decide
set_option maxHeartbeats 6400000 in
theorem def_any {R : Nat → Nat → Option Value} {B H bm : Nat} (op : Int) (tx : ByteArray) (v : VV) (nm : List ByteArray) (b c : List Tr) (na sa pa ba ea : Option Addr) (nc sc pc bc ec : Nat) (w : World) (bi bf q : Nat) (okb : ∀ p ∈ b, OkP p) (hcn : c ≠ []) (HC : ∀ t ∈ c, MSt R B H bm t ∧ OkS t ∧ PlS t) (hpa : PaL R b (.slice pa b.length pc)) (hsc : StL R c (.slice ba c.length bc)) (ho : Old R B w) (hBH : B ≤ H) (hm : MK3 w H bm bi bf q q (q + 1)) (hq : q + ctS (Tr.mk 3 op tx v nm [] b c []) ≤ 8192) :
   Calls Tryz.prog 37 #[.pointer (some ⟨bm, 0, none⟩), .agg #[.int .i64 3, .int .i64 op, .string tx, .slice na nm.length nc, .slice sa 0 sc, .slice pa b.length pc, .slice ba c.length bc, .slice ea 0 ec]] w (MPost H bm bi bf q (ctS (Tr.mk 3 op tx v nm [] b c [])) (nmS (Tr.mk 3 op tx v nm [] b c [])) w) := by
 obtain ⟨iE, hiE, hzE, hsE, hbE⟩ := info_parts infoNode
 obtain ⟨W0, hW0⟩ : ∃ W0, W0 = w.alloc (.cells #[.int .i64 3, .int .i64 op, .string tx, .slice na nm.length nc, .slice sa 0 sc, .slice pa b.length pc, .slice ba c.length bc, .slice ea 0 ec] 42) := ⟨_, rfl⟩
 have hb0 : Below w.heap.size w W0 := by rw [hW0]; exact (Below.refl _ _).alloc (Nat.le_refl _) _
 have hm1 : MK w H bm bi bf (q + 1) := hm.to (by omega) (by omega) (by omega)
 have hl := hm1.lts
 have HPOS := Li (pos_any H bm bi bf (q + 1) W0 (hm1.below hb0))
 have HB0 := Li hb0
 have HM := Li hm1
 have HM3 := Li hm
 have HO := Li ho
 have HQ := Li hq
 have HPA := Li hpa
 have HSC := Li hsc
 have HCC := Li HC
 have HCN := Li hcn
 have HOKB := Li okb
 clear hb0 hm hm1 ho hq hpa hsc HC hcn okb
 subst hW0
 go_enter Tryz.func37, Tryz.ntmps37
 go_wp2_with fail
 refine HPOS.out.mono ?_
 rintro e w1 ⟨ln, rfl, hb1⟩
 clear HPOS
 obtain ⟨pb, hpb⟩ : ∃ pb, w1.heap.size = pb := ⟨_, rfl⟩
 obtain ⟨hst, hmp, he, hop, hz3⟩ := mex_head (L := [.int .i64 3, .int .i64 op, .string tx, .slice na nm.length nc, .slice sa 0 sc, .slice pa b.length pc, .slice ba c.length bc, .slice ea 0 ec]) (by decide) (by decide) (by decide) HM.out HO.out hBH hb1 (Stp.refl _ _ _ _ _) ((HM.out.below HB0.out).below hb1) (Below.refl _ _) (.cells #[.pointer (some ⟨bm, 0, none⟩), .int .i32 ln, .int .i32 1] 63)
 have hpk : Blk (w1.alloc (.cells #[.pointer (some ⟨bm, 0, none⟩), .int .i32 ln, .int .i32 1] 63)) pb 63 [.pointer (some ⟨bm, 0, none⟩), .int .i32 ln, .int .i32 1] := by rw [← hpb]; exact Blk.new w1 _ _
 have hm3 : MK3 (w1.alloc (.cells #[.pointer (some ⟨bm, 0, none⟩), .int .i32 ln, .int .i32 1] 63)).drew H bm bi bf q q (q + 1) := HM3.out.below ((HB0.out.trans (hb1.mono HB0.out.size)).alloc (by have := HB0.out.size; have := hb1.size; omega) _).drew
 have HST := Li hst
 have HMP := Li hmp
 have HPD : Hid (Blk (w1.alloc (.cells #[.pointer (some ⟨bm, 0, none⟩), .int .i32 ln, .int .i32 1] 63)).drew pb 63 [.pointer (some ⟨bm, 0, none⟩), .int .i32 ln, .int .i32 1]) := Li hpk
 have h9 : Hid (Blk (w1.alloc (.cells #[.pointer (some ⟨bm, 0, none⟩), .int .i32 ln, .int .i32 1] 63)).drew w.heap.size 42 [.int .i64 3, .int .i64 op, .string tx, .slice na nm.length nc, .slice sa 0 sc, .slice pa b.length pc, .slice ba c.length bc, .slice ea 0 ec]) := Li he
 have PN := Li (HMP.out.ne hpk (by decide) (by decide) (by decide))
 have EN := Li (HMP.out.ne he (by decide) (by decide) (by decide))
 have hct : ctPs b + ctSs c + 1 ≤ ctS (Tr.mk 3 op tx v nm [] b c []) := by rw [ctS_mk]; simp; omega
 have HCT := Li hct
 have ID := Li (ident3_any H bm bi bf q q (q + 1) tx (w1.alloc (.cells #[.pointer (some ⟨bm, 0, none⟩), .int .i32 ln, .int .i32 1] 63)).drew hm3 (by have := HQ.out; omega))
 have KS : Hid (∀ W, Blk W pb 63 [.pointer (some ⟨bm, 0, none⟩), .int .i32 ln, .int .i32 1] → Blk W w.heap.size 42 [.int .i64 3, .int .i64 op, .string tx, .slice na nm.length nc, .slice sa 0 sc, .slice pa b.length pc, .slice ba c.length bc, .slice ea 0 ec] → W.cell? ⟨pb, 0, none⟩ = some (.pointer (some ⟨bm, 0, none⟩)) ∧ W.cell? ⟨pb, 1, none⟩ = some (.int .i32 ln) ∧ W.cell? ⟨pb, 2, none⟩ = some (.int .i32 1) ∧ W.cell? ⟨w.heap.size, 2, none⟩ = some (.string tx)) := Li (fun W h1 h2 => ⟨h1.cell 0 (by simp), h1.cell 1 (by simp), h1.cell 2 (by simp), h2.cell 2 (by simp)⟩)
 have STEPD : Hid (∀ (en : Ending) (w4 : World), IdPost3 H bm bi bf q q (q + 1) tx (w1.alloc (.cells #[.pointer (some ⟨bm, 0, none⟩), .int .i32 ln, .int .i32 1] 63)).drew en w4 → ∃ ib bi4, en = .returned (.pointer (some ⟨ib, 0, none⟩)) ∧ Blk w4 pb 63 [.pointer (some ⟨bm, 0, none⟩), .int .i32 ln, .int .i32 1] ∧ Blk w4 w.heap.size 42 [.int .i64 3, .int .i64 op, .string tx, .slice na nm.length nc, .slice sa 0 sc, .slice pa b.length pc, .slice ba c.length bc, .slice ea 0 ec] ∧ MK3 (w4.alloc (.cells #[.pointer none, .pointer (some ⟨bm, 0, none⟩), .int .i32 ln, .int .i32 1, .pointer (some ⟨ib, 0, none⟩), .pointer (some ⟨bm, 0, none⟩), .int .i32 ln, .int .i32 1, .slice none 0 0, .pointer (some ⟨bm, 0, none⟩), .int .i32 ln, .int .i32 1, .slice none 0 0, .nilIface] 108)) H bm bi4 bf (q + 1) q (q + 1) ∧ Bld H bm bi bf q w4.heap.size pb w.heap.size ln 108 42 [.pointer none, .pointer (some ⟨bm, 0, none⟩), .int .i32 ln, .int .i32 1, .pointer (some ⟨ib, 0, none⟩), .pointer (some ⟨bm, 0, none⟩), .int .i32 ln, .int .i32 1, .slice none 0 0, .pointer (some ⟨bm, 0, none⟩), .int .i32 ln, .int .i32 1, .slice none 0 0, .nilIface] [.int .i64 3, .int .i64 op, .string tx, .slice na nm.length nc, .slice sa 0 sc, .slice pa b.length pc, .slice ba c.length bc, .slice ea 0 ec] [(4, .n)] w 0 1 [.iface 56 (.pointer (some ⟨ib, 0, none⟩))] [tx] 1 bi4 bf (w4.alloc (.cells #[.pointer none, .pointer (some ⟨bm, 0, none⟩), .int .i32 ln, .int .i32 1, .pointer (some ⟨ib, 0, none⟩), .pointer (some ⟨bm, 0, none⟩), .int .i32 ln, .int .i32 1, .slice none 0 0, .pointer (some ⟨bm, 0, none⟩), .int .i32 ln, .int .i32 1, .slice none 0 0, .nilIface] 108))) := Li (fun en w4 h4 => by
   obtain ⟨ib, bi4, rfl, hs4, hm4, hn4, _, _⟩ := h4
   have hp4 := (hs4.blk HPD.out HPD.out.lt PN.out.1 PN.out.2.1 PN.out.2.2).1
   have he4 := (hs4.blk h9.out h9.out.lt EN.out.1 EN.out.2.1 EN.out.2.2).1
   exact ⟨ib, bi4, rfl, hp4, he4, hm4.below ((Below.refl _ _).alloc (Nat.le_refl _) _), Bld.startN (L := [.pointer none, .pointer (some ⟨bm, 0, none⟩), .int .i32 ln, .int .i32 1, .pointer (some ⟨ib, 0, none⟩), .pointer (some ⟨bm, 0, none⟩), .int .i32 ln, .int .i32 1, .slice none 0 0, .pointer (some ⟨bm, 0, none⟩), .int .i32 ln, .int .i32 1, .slice none 0 0, .nilIface]) (W := (w1.alloc (.cells #[.pointer (some ⟨bm, 0, none⟩), .int .i32 ln, .int .i32 1] 63)).drew) fr_def fr_stmt HST.out.drew hs4 (hm4.to (by omega) (by omega) (by omega)) hn4 (by omega) hp4 he4 rfl⟩)
 clear hb1 hst hmp he hop hpk hct hm3
 go_upto_region 2 with fail
 go_region_held3 (fun W => W.cell? ⟨pb, 0, none⟩ = some (.pointer (some ⟨bm, 0, none⟩)) ∧ W.cell? ⟨pb, 1, none⟩ = some (.int .i32 ln) ∧ W.cell? ⟨pb, 2, none⟩ = some (.int .i32 1) ∧ W.cell? ⟨w.heap.size, 2, none⟩ = some (.string tx)) (with_reducible first | exact KS.out _ HPD.out h9.out | exact KS.out _ HP4.out HE4.out | exact KS.out _ (HP4.out.alloc _) (HE4.out.alloc _) | fail)
   ((first
     | (go_at_call 42; (with_reducible refine ID.out.mono ?_); rintro e w4 h4; obtain ⟨ib, bi4, rfl, hp4, he4, hm4, bld⟩ := STEPD.out e w4 h4; have HP4 := Li hp4; have HE4 := Li he4; have HM4 := Li hm4; have BL := Li bld; clear h4 hp4 he4 hm4 bld)
     | fail))
 obtain ⟨nm0, cnt, lne, vi, vf, ni, nf, xi, xf, hk, hi, hf, hqq, e1, e2, hH⟩ := HM4.out
 obtain ⟨fa, fc, rfl⟩ := own_form hf
 have hbR : Below (w4.alloc (.cells #[.pointer none, .pointer (some ⟨bm, 0, none⟩), .int .i32 ln, .int .i32 1, .pointer (some ⟨ib, 0, none⟩), .pointer (some ⟨bm, 0, none⟩), .int .i32 ln, .int .i32 1, .slice none 0 0, .pointer (some ⟨bm, 0, none⟩), .int .i32 ln, .int .i32 1, .slice none 0 0, .nilIface] 108)).heap.size (w4.alloc (.cells #[.pointer none, .pointer (some ⟨bm, 0, none⟩), .int .i32 ln, .int .i32 1, .pointer (some ⟨ib, 0, none⟩), .pointer (some ⟨bm, 0, none⟩), .int .i32 ln, .int .i32 1, .slice none 0 0, .pointer (some ⟨bm, 0, none⟩), .int .i32 ln, .int .i32 1, .slice none 0 0, .nilIface] 108)) ((w4.alloc (.cells #[.pointer none, .pointer (some ⟨bm, 0, none⟩), .int .i32 ln, .int .i32 1, .pointer (some ⟨ib, 0, none⟩), .pointer (some ⟨bm, 0, none⟩), .int .i32 ln, .int .i32 1, .slice none 0 0, .pointer (some ⟨bm, 0, none⟩), .int .i32 ln, .int .i32 1, .slice none 0 0, .nilIface] 108)).alloc (.cells #[.iface 105 (.pointer (some ⟨w4.heap.size, 0, none⟩))] 55)) := (Below.refl _ _).alloc (Nat.le_refl _) _
 have OWNF := Li (own_below hf hbR)
 have m4 : (w4.alloc (.cells #[.pointer none, .pointer (some ⟨bm, 0, none⟩), .int .i32 ln, .int .i32 1, .pointer (some ⟨ib, 0, none⟩), .pointer (some ⟨bm, 0, none⟩), .int .i32 ln, .int .i32 1, .slice none 0 0, .pointer (some ⟨bm, 0, none⟩), .int .i32 ln, .int .i32 1, .slice none 0 0, .nilIface] 108)).cell? ⟨bm, 4, none⟩ = some (.slice fa nf fc) := hk.cell 4 (by simp)
 have KC : Hid (∀ w5 : World, ((w4.alloc (.cells #[.pointer none, .pointer (some ⟨bm, 0, none⟩), .int .i32 ln, .int .i32 1, .pointer (some ⟨ib, 0, none⟩), .pointer (some ⟨bm, 0, none⟩), .int .i32 ln, .int .i32 1, .slice none 0 0, .pointer (some ⟨bm, 0, none⟩), .int .i32 ln, .int .i32 1, .slice none 0 0, .nilIface] 108)).alloc (.cells #[.iface 105 (.pointer (some ⟨w4.heap.size, 0, none⟩))] 55)).grownBy w5 (Value.slice fa nf fc).ownBlock → w5.cell? ⟨bm, 4, none⟩ = some (.slice fa nf fc) ∧ w5.frozen? ⟨bm, 4, none⟩ = false ∧ bm < w5.heap.size) := Li (fun w5 hg => by
   have hk4 := (hk.below hbR hk.lt).far_own OWNF.out (by decide) hg
   exact ⟨hk4.cell 4 (by simp), hk4.free 4, hk4.lt⟩)
 have hxz : (w4.alloc (.cells #[.pointer none, .pointer (some ⟨bm, 0, none⟩), .int .i32 ln, .int .i32 1, .pointer (some ⟨ib, 0, none⟩), .pointer (some ⟨bm, 0, none⟩), .int .i32 ln, .int .i32 1, .slice none 0 0, .pointer (some ⟨bm, 0, none⟩), .int .i32 ln, .int .i32 1, .slice none 0 0, .nilIface] 108)).heap.size = w4.heap.size + 1 := by simp
 have HSL : Hid (Sl ((w4.alloc (.cells #[.pointer none, .pointer (some ⟨bm, 0, none⟩), .int .i32 ln, .int .i32 1, .pointer (some ⟨ib, 0, none⟩), .pointer (some ⟨bm, 0, none⟩), .int .i32 ln, .int .i32 1, .slice none 0 0, .pointer (some ⟨bm, 0, none⟩), .int .i32 ln, .int .i32 1, .slice none 0 0, .nilIface] 108)).alloc (.cells #[.iface 105 (.pointer (some ⟨w4.heap.size, 0, none⟩))] 55)) (w4.heap.size + 2) (.slice (some ⟨w4.heap.size + 1, 0, none⟩) 1 1) [.iface 105 (.pointer (some ⟨w4.heap.size, 0, none⟩))]) := Li (by
   have h0 : Sl ((w4.alloc (.cells #[.pointer none, .pointer (some ⟨bm, 0, none⟩), .int .i32 ln, .int .i32 1, .pointer (some ⟨ib, 0, none⟩), .pointer (some ⟨bm, 0, none⟩), .int .i32 ln, .int .i32 1, .slice none 0 0, .pointer (some ⟨bm, 0, none⟩), .int .i32 ln, .int .i32 1, .slice none 0 0, .nilIface] 108)).alloc (.cells #[.iface 105 (.pointer (some ⟨w4.heap.size, 0, none⟩))] 55)) ((w4.alloc (.cells #[.pointer none, .pointer (some ⟨bm, 0, none⟩), .int .i32 ln, .int .i32 1, .pointer (some ⟨ib, 0, none⟩), .pointer (some ⟨bm, 0, none⟩), .int .i32 ln, .int .i32 1, .slice none 0 0, .pointer (some ⟨bm, 0, none⟩), .int .i32 ln, .int .i32 1, .slice none 0 0, .nilIface] 108)).heap.size + 1) (.slice (some ⟨(w4.alloc (.cells #[.pointer none, .pointer (some ⟨bm, 0, none⟩), .int .i32 ln, .int .i32 1, .pointer (some ⟨ib, 0, none⟩), .pointer (some ⟨bm, 0, none⟩), .int .i32 ln, .int .i32 1, .slice none 0 0, .pointer (some ⟨bm, 0, none⟩), .int .i32 ln, .int .i32 1, .slice none 0 0, .nilIface] 108)).heap.size, 0, none⟩) 1 1) [.iface 105 (.pointer (some ⟨w4.heap.size, 0, none⟩))] := Sl.one _ _ _ rfl
   rw [hxz] at h0; exact h0)
 have FN : Hid (∀ v' w5 n' x', w5.ownsRow H 55 1 v' n' x' → n' ≤ nf + 1 → ((w4.alloc (.cells #[.pointer none, .pointer (some ⟨bm, 0, none⟩), .int .i32 ln, .int .i32 1, .pointer (some ⟨ib, 0, none⟩), .pointer (some ⟨bm, 0, none⟩), .int .i32 ln, .int .i32 1, .slice none 0 0, .pointer (some ⟨bm, 0, none⟩), .int .i32 ln, .int .i32 1, .slice none 0 0, .nilIface] 108)).alloc (.cells #[.iface 105 (.pointer (some ⟨w4.heap.size, 0, none⟩))] 55)).grownBy w5 (Value.slice fa nf fc).ownBlock → (v'.ownBlock = (Value.slice fa nf fc).ownBlock ∨ v'.ownBlock = some ((w4.alloc (.cells #[.pointer none, .pointer (some ⟨bm, 0, none⟩), .int .i32 ln, .int .i32 1, .pointer (some ⟨ib, 0, none⟩), .pointer (some ⟨bm, 0, none⟩), .int .i32 ln, .int .i32 1, .slice none 0 0, .pointer (some ⟨bm, 0, none⟩), .int .i32 ln, .int .i32 1, .slice none 0 0, .nilIface] 108)).alloc (.cells #[.iface 105 (.pointer (some ⟨w4.heap.size, 0, none⟩))] 55)).heap.size) → ∃ bf', Bld H bm bi bf q w4.heap.size pb w.heap.size ln 108 42 [.pointer none, .pointer (some ⟨bm, 0, none⟩), .int .i32 ln, .int .i32 1, .pointer (some ⟨ib, 0, none⟩), .pointer (some ⟨bm, 0, none⟩), .int .i32 ln, .int .i32 1, .slice none 0 0, .pointer (some ⟨bm, 0, none⟩), .int .i32 ln, .int .i32 1, .slice none 0 0, .nilIface] [.int .i64 3, .int .i64 op, .string tx, .slice na nm.length nc, .slice sa 0 sc, .slice pa b.length pc, .slice ba c.length bc, .slice ea 0 ec] [(4, .n)] w 0 1 [.iface 56 (.pointer (some ⟨ib, 0, none⟩))] [tx] 1 bi4 bf' (w5.setCell ⟨bm, 4, none⟩ v')) := Li (fun v' w5 n' x' g1 g0 g2 g3 => by
   obtain ⟨bf', s1, s2, _⟩ := MK3.app_f hbR hk hi hf hqq e1 e2 hH g0 g1 g2 g3
   exact ⟨bf', BL.out.keep s1 (s2.to (by omega) (by omega) (by omega))⟩)
 have hqn : nf ≤ 8192 := by have := HQ.out; omega
 have hHW : Hid (H ≤ ((w4.alloc (.cells #[.pointer none, .pointer (some ⟨bm, 0, none⟩), .int .i32 ln, .int .i32 1, .pointer (some ⟨ib, 0, none⟩), .pointer (some ⟨bm, 0, none⟩), .int .i32 ln, .int .i32 1, .slice none 0 0, .pointer (some ⟨bm, 0, none⟩), .int .i32 ln, .int .i32 1, .slice none 0 0, .nilIface] 108)).alloc (.cells #[.iface 105 (.pointer (some ⟨w4.heap.size, 0, none⟩))] 55)).heap.size) := Li (by have := hbR.size; have := BL.out.hm.lts; omega)
 clear hk hi hf e1 e2 hbR hqq hxz HM4 HP4 HE4 STEPD KS ID
 go_wp2_with (at_builtin; refine wpList_append_to _ rfl (.tmp 22) (.tmp 25) 81 rfl H 55 iE _ 16 Tryz.underlying81 hiE hzE hsE hbE rfl (.slice fa nf fc) nf _ rfl OWNF.out _ _ _ rfl HSL.out (by intro u hu; simp at hu; subst hu; rfl) (by unfold maxLen; simp; omega) (by simp; omega) hHW.out ?_; intro v5 w5 g1 g2 g3; obtain ⟨bf', bl⟩ := FN.out v5 w5 _ _ g1 (by simp) g2 g3; have BL2 := Li bl; obtain ⟨r1, r2, r3⟩ := KC.out w5 g2; obtain ⟨a4, k4, hv4⟩ := own_form (show w5.ownsRow H 55 1 v5 (nf + 1) _ from g1); subst hv4; have d5 := BL2.out.he.cell 5 (by simp); clear g1 g2 g3 bl)
 have HO2 : Hid (Old R B (w5.setCell ⟨bm, 4, none⟩ (.slice a4 (nf + 1) k4))) := Li (HO.out.below ((BL2.out.hs.below (H := H) (by omega) (by omega) (by omega) (by omega)).mono hBH))
 have PAR := Li (mparams_of (l := b) (H := H) (bm := bm) (fun p hp t ht => mex_any R B H bm t) HOKB.out pa pc (w5.setCell ⟨bm, 4, none⟩ (.slice a4 (nf + 1) k4)) bi4 bf' (q + 1) HPA.out HO2.out hBH BL2.out.hm (by have := HQ.out; have := HCT.out; omega) (by have := len_le_ctPs (l := b); have := HQ.out; have := HCT.out; omega))
 clear KC FN OWNF HSL hHW m4 r1 r2 r3
 go_wp2_with fail
 refine PAR.out.mono ?_
 rintro e w6 h6
 obtain ⟨a5, cc5, ch5, cn5, bi5, bf5, rfl, hx5, hb5⟩ := BL2.out.putS h6 (j := 8) (by simp) (by simp)
 have c6 := hx5.cell 8 (by simp)
 have f6 := hx5.free 8
 have l6 := hx5.lt
 have BL3 := Li hb5
 have HO3 : Hid (Old R B (w6.setCell ⟨w4.heap.size, 8, none⟩ (.slice a5 b.length cc5))) := Li (HO.out.below ((BL3.out.hs.below (H := H) (by omega) (by omega) (by omega) (by omega)).mono hBH))
 have d6 := BL3.out.he.cell 6 (by simp)
 have BD := Li (mbody_of (l := c) (H := H) (bm := bm) (fun t ht => (HCC.out t ht).1) (fun t ht => (HCC.out t ht).2.1) (fun t ht => (HCC.out t ht).2.2) HCN.out ba bc (w6.setCell ⟨w4.heap.size, 8, none⟩ (.slice a5 b.length cc5)) bi5 bf5 (q + (1 + ctPs b)) HSC.out HO3.out hBH BL3.out.hm (by have := HQ.out; have := HCT.out; omega))
 clear h6 hx5 hb5 PAR BL2 HO2 d5
 go_wp2_with fail
 refine BD.out.mono ?_
 rintro e w7 h7
 obtain ⟨a7, cc7, ch7, cn7, bi7, bf7, rfl, hx7, hb7⟩ := BL3.out.putS h7 (j := 12) (by intro i k h; simp at h; omega) (by simp)
 have c7 := hx7.cell 12 (by simp)
 have f7 := hx7.free 12
 have l7 := hx7.lt
 have FIN := Li (hb7.fin (T := 105) (N := ctS (Tr.mk 3 op tx v nm [] b c [])) (NS := nmS (Tr.mk 3 op tx v nm [] b c [])) (by simp [tbl]) (by have := HCT.out; omega) (by have := HCT.out; omega) (by rw [nmS_mk]; simp))
 clear h7 hx7 hb7 BD BL3 HO3
 go_wp2_with fail
 go_ret
 exact FIN.out
end Go.Proofs.YtoojgjhfmmohbaaGreat
