/- make and set over a row of one's own. addVW, subVW: a row of words and one word more, or less, laid into a row of the caller's own. subVW; addVW and subVW by the numbers that the rows stand for. -/
import Derived.Test.YtpcnmgldmnncoaaGreatDoorMVec
import Derived.Test.YtpcnmgldmnncoaaGreatDoorMMul
import Derived.Deep.CutBlock
import Derived.Deep.RegionLaw
import Derived.Deep.CutRange
import Derived.IntWalk
import Derived.Deep.RegionHeld3
namespace Go.Proofs.YtpcnmgldmnncoaaGreatDoor
open Go.RowKit Dig
set_option linter.unusedVariables false
set_option linter.unusedSimpArgs false
set_option maxRecDepth 100000

theorem Sl.src {w : World} {B : Nat} {a : Option Addr} {n c : Nat} {vs : List Value} (h : Sl w B (.slice a n c) vs) : 0 < vs.length → ∃ ad, a = some ad ∧ ∀ j v, vs[j]? = some v → w.cell? (ad.add j) = some v := by
  obtain ⟨a', c', hv, hc, hr⟩ := h
  simp only [Value.slice.injEq] at hv
  obtain ⟨rfl, rfl, rfl⟩ := hv
  intro h0
  obtain ⟨b, o, ha, hb, hrd⟩ := hr (by intro e; rw [e] at h0; simp at h0)
  refine ⟨_, ha, fun j v hj => ?_⟩
  have hlt : j < vs.length := by
    rcases Nat.lt_or_ge j vs.length with h | h
    · exact h
    · rw [List.getElem?_eq_none h] at hj; cases hj
  have := hrd j hlt
  rw [add_zero_off, this, List.getD_eq_getElem?_getD, hj]; rfl
/-- a row of one's own, or none -/
def RowOf (w : World) (H : Nat) (a : Option Addr) (c : Nat) : Prop := (a = none ∧ c = 0) ∨ ∃ b L, a = some ⟨b, 0, none⟩ ∧ H ≤ b ∧ (L.length = c ∧ 0 < c) ∧ Blk w b 79 L
/-- what make leaves: the row that was there, or a new one -/
def MkPost (a : Option Addr) (n H : Nat) (w : World) (e : Ending) (w' : World) : Prop :=
  ∃ b c L, e = .returned (.slice (some ⟨b, 0, none⟩) n c) ∧ n ≤ c ∧ c ≤ 1048576 ∧ H ≤ b ∧ L.length = c ∧ Blk w' b 79 L ∧ ((w' = w ∧ a = some ⟨b, 0, none⟩) ∨ (b = w.heap.size ∧ w' = w.alloc (.cells L.toArray 79)))
theorem make_own (a : Option Addr) (k c n H : Nat) (w : World) (h : RowOf w H a c) (hn0 : 0 < n) (hn : n ≤ 1000000) (hc : c ≤ 1048576) (hH : H ≤ w.heap.size) (hk : a = none → k = 0) :
    Calls Tryz.prog 54 #[.slice a k c, .int .i64 n] w (MkPost a n H w) := by
  rcases h with ⟨rfl, rfl⟩ | ⟨b, L, rfl, hHb, ⟨hL, hc0⟩, hb⟩
  · obtain rfl := hk rfl
    refine (make_any n w hn0 (by omega)).mono ?_
    rintro e w' ⟨c', h1, h2, rfl, rfl⟩
    exact ⟨_, c', zs (.int .u64 0) c', rfl, h1, by omega, hH, zs_length _ _, Blk.new w _ _, .inr ⟨rfl, rfl⟩⟩
  · by_cases hnc : n ≤ c
    · refine (make_in b k c n w hnc).mono ?_
      rintro e w' ⟨rfl, rfl⟩
      exact ⟨b, c, L, rfl, hnc, hc, hHb, hL, hb, .inl ⟨rfl, rfl⟩⟩
    · refine (make_out b k c n w (by omega) (by omega) (by omega)).mono ?_
      rintro e w' ⟨rfl, rfl⟩
      exact ⟨_, n + 4, zs (.int .u64 0) (n + 4), rfl, by omega, by omega, hH, zs_length _ _, Blk.new w _ _, .inr ⟨rfl, rfl⟩⟩
theorem MkPost.below {a : Option Addr} {n H : Nat} {w w' : World} {e : Ending} (h : MkPost a n H w e w') : Below w.heap.size w w' := by
  obtain ⟨b, c, L, -, -, -, -, -, -, ⟨rfl, -⟩ | ⟨-, rfl⟩⟩ := h
  · exact Below.refl _ _
  · exact (Below.refl _ _).alloc (Nat.le_refl _) _
/-- a number's copy of one's own -/
def OwPost (H M : Nat) (w : World) (e : Ending) (w' : World) : Prop := ∃ v, e = .returned v ∧ Ow w' H v M ∧ Below H w w'
set_option maxHeartbeats 800000 in
theorem set_own (xs : List Nat) (X H B : Nat) (a : Option Addr) (k c : Nat) (x : Value) (w : World) (h : RowOf w H a c) (hkn : a = none → k = 0) (hc : c ≤ 1048576) (hH : H ≤ w.heap.size) (hB : B ≤ w.heap.size) (hx : Sl w B x (xs.map wv)) (rx : Rep 18446744073709551616 xs X) (hx0 : 0 < xs.length) (hl : xs.length ≤ 1000000) : Calls Tryz.prog 57 #[.slice a k c, x] w (OwPost H X w) := by
  have CM := Lib.hid (make_own a k c xs.length H w h hx0 hl hc hH hkn)
  obtain ⟨a1, c1, rfl, hc1, hr⟩ := id hx
  simp only [List.length_map] at hx hc1 ⊢
  have h0 : xs ≠ [] := by intro e; rw [e] at hx0; simp at hx0
  obtain ⟨b, o, rfl, hb, hrd⟩ := hr (by simpa using h0)
  obtain ⟨n, hn⟩ : ∃ n, n = xs.length := ⟨_, rfl⟩
  obtain ⟨cs, hcs⟩ : ∃ cs, cs = xs.map wv := ⟨_, rfl⟩
  have hcsl : cs.length = n := by rw [hcs, hn]; simp
  have hn0 : 0 < n := by omega
  rw [← hn] at CM hx hc1 hl ⊢
  have P2 := Lib.hid (show cs.length = Nat.min n n by rw [hcsl]; simp)
  have h1c : ∀ u ∈ cs, u.oneCell' = true := by rw [hcs]; exact oneCell_wv xs
  have P4 := Lib.hid h1c
  have RX := Lib.hid rx
  have HX := Lib.hid hx
  have HCS := Lib.hid hcs
  have HN := Lib.hid hn
  have HCL := Lib.hid hcsl
  clear h hr hrd rx hx hn hcs hcsl h1c h0 hx0 hkn
  go_enter Tryz.func57, Tryz.ntmps57
  go_wp2_with fail
  with_reducible refine CM.out.mono ?_
  rintro e w' hp
  have HBL := Lib.hid hp.below
  obtain ⟨b', c', L, rfl, p1, p2, p3, p4, p5, p6⟩ := hp
  have hxw : Sl w' B (.slice (some ⟨b, o, none⟩) n c1) cs := by
    rw [HCS.out]
    refine HX.out.keep fun bb oo hlt => ?_
    have hlt2 : bb < w.heap.size := by omega
    exact HBL.out.cell (p := ⟨bb, oo, none⟩) hlt2
  have P5 : Hid (Blk w' b' 79 L) := Lib.hid p5
  have P1 : Hid (∀ j v, cs[j]? = some v → w'.cell? ((⟨b, o, none⟩ : Addr).add j) = some v) := Lib.hid (by
    obtain ⟨ad, had, h⟩ := hxw.src (by have := HCL.out; omega)
    injection had with had
    subst had
    exact h)
  have P3 := Lib.hid (show 0 + cs.length ≤ L.length by have := HCL.out; omega)
  clear p5 hxw CM p6
  go_wp2_with (refine wpList_copy_up (o := ⟨some 11, _, _, _, _, _⟩) rfl (.tmp 9) (.tmp 10) 53 53 rfl 79 Tryz.underlying53 (by kernel_rfl) _ _ _ _ _ _ rfl rfl b' 0 L 79 P5.out cs P2.out (fun _ => ⟨rfl, _, rfl, P1.out⟩) P3.out P4.out w' (Up.refl _ _) ?_; intro w4 hg4 hb4)
  go_ret
  refine ⟨_, rfl, ⟨some ⟨b', 0, none⟩, n, c', xs, rfl, RX.out, HN.out.symm, p1, p2, .inr ⟨b', _, rfl, p3, ⟨by rw [length_splice _ _ _ P3.out]; exact p4, by omega⟩, hg4.out, ?_⟩⟩, (HBL.out.mono hH).trans (hb4.out.below (by have := HBL.out.size; omega) (fun kk hk => by injection hk with hk; omega))⟩
  rw [← HCL.out, splice0_take _ _ (by have := P3.out; omega), HCS.out]
end Go.Proofs.YtpcnmgldmnncoaaGreatDoor

namespace Go.Proofs.YtpcnmgldmnncoaaGreatDoor
open Go.RowKit Dig
set_option linter.unusedVariables false
set_option linter.unusedSimpArgs false
set_option maxRecDepth 100000

section
variable {P : Program} {w : World}
/-- a pointer into a row of the call's own and one to a cell that can be read: not the same -/
theorem run_sameAddr_rd {b o b1 o1 : Nat} {L : List Value} {t : TypeId} {v : Value} (hk : Blk w b t L) (hc : w.cell? ⟨b1, o1, none⟩ = some v) (hne : b ≠ b1) :
    (sameAddr ⟨b, o, none⟩ ⟨b1, o1, none⟩).run P w = .ok false w := by
  unfold Blk at hk
  obtain ⟨c, tc, lo, hi, hh, hpos⟩ : ∃ (c : Array Value) (tc : TypeId) (lo hi : Nat), w.heap[b1]? = some (.cells c tc (lo, hi)) ∧ 0 < c.size := by
    unfold World.cell? at hc
    simp only at hc
    split at hc
    · rename_i c t' f heq
      obtain ⟨lo, hi⟩ := f
      refine ⟨c, t', lo, hi, heq, ?_⟩
      simp only [Option.isSome_none, Bool.false_eq_true, if_false] at hc
      rcases Nat.lt_or_ge 0 c.size with h | h
      · exact h
      · rw [Array.getElem?_eq_none (by omega)] at hc; cases hc
    · cases hc
  have hne' : ¬ b = b1 := hne
  have hp : ¬ c.size = 0 := by omega
  by_cases hf : w.frozen? ⟨b1, o1, none⟩ = true
  · simp [sameAddr, hne', World.frozen?, hk, hh, noView, viewAt, World.shape?, mayBeOne, stringish, hp]
    try (split <;> simp_all)
  · simp [sameAddr, hne', World.frozen?, hk, hh, noView, viewAt, World.shape?, mayBeOne, stringish, hp]
    try (split <;> simp_all)
theorem run_equalIn_ptr_rd (d : Nat) {t te : TypeId} {i : TypeInfo} {b o b1 o1 : Nat} {L : List Value} {e : TypeId} {v : Value} (ht : P.underlying t = some (.pointer te)) (hte : P.info? te = some i) (hsz : i.size ≠ 0)
    (hk : Blk w b e L) (hc : w.cell? ⟨b1, o1, none⟩ = some v) (hne : b ≠ b1) :
    (Op.equalIn (d + 1) t (.pointer (some ⟨b, o, none⟩)) (.pointer (some ⟨b1, o1, none⟩))).run P w = .ok false w := by
  have h := run_sameAddr_rd (P := P) (o := o) hk hc hne
  simp [Op.equalIn, run_underlying ht, typeInfo, hte, sizeOf, hsz, h]
theorem run_equal_ptr_rd {t te : TypeId} {i : TypeInfo} {b o b1 o1 : Nat} {L : List Value} {e : TypeId} {v : Value} (ht : P.underlying t = some (.pointer te)) (hte : P.info? te = some i) (hsz : i.size ≠ 0)
    (hk : Blk w b e L) (hc : w.cell? ⟨b1, o1, none⟩ = some v) (hne : b ≠ b1) :
    (Op.equal t (.pointer (some ⟨b, o, none⟩)) (.pointer (some ⟨b1, o1, none⟩))).run P w = .ok false w := run_equalIn_ptr_rd 9999 ht hte hsz hk hc hne
theorem run_neq_ptr_rd {t te : TypeId} {i : TypeInfo} {b o b1 o1 : Nat} {L : List Value} {e : TypeId} {v : Value} (ht : P.underlying t = some (.pointer te)) (hte : P.info? te = some i) (hsz : i.size ≠ 0)
    (hk : Blk w b e L) (hc : w.cell? ⟨b1, o1, none⟩ = some v) (hne : b ≠ b1) :
    (binOp .neq t (.pointer (some ⟨b, o, none⟩)) (.pointer (some ⟨b1, o1, none⟩))).run P w = .ok (.bool true) w := by
  simp only [binOp]
  simp [run_equal_ptr_rd ht hte hsz hk hc hne]
end

theorem infoWsz : ∃ i, Tryz.prog.info? 79 = some i ∧ i.size ≠ 0 := by
  obtain ⟨i, hi, hs⟩ := Option.map_eq_some_iff.1 (show (Tryz.prog.info? 79).map (·.size) = some 1 by kernel_rfl)
  exact ⟨i, hi, by omega⟩

set_option maxHeartbeats 1600000 in
theorem addVW_walk (xs : List Nat) (y : Nat) (L : List Value) (b o n cz B : Nat) (x : Value) (w : World) (D : Nat → List Nat) (c : Nat → Nat) (hx : Sl w B x (xs.map wv)) (lx : xs.length = n)
    (hxs : ∀ x ∈ xs, x < 18446744073709551616) (h0 : 0 < n) (hcz : n < cz) (hB : B ≤ b) (hBw : B ≤ w.heap.size) (hk : Blk w b 79 L) (hn : o + n ≤ L.length) (hl : n ≤ 1048576)
    (hlen : ∀ k, k ≤ n → (D k).length = k) (hy : y < 18446744073709551616) (h1 : D 1 = [(xs.getD 0 0 + y) % 18446744073709551616]) (h2 : c 1 = (xs.getD 0 0 + y) / 18446744073709551616)
    (hdone : ∀ k, 1 ≤ k → k ≤ n → c k = 0 → D n = D k ++ xs.drop k ∧ c n = 0)
    (hs1 : ∀ k, 1 ≤ k → k < n → c k = 1 → xs.getD k 0 ≠ 18446744073709551615 → D (k + 1) = D k ++ [xs.getD k 0 + 1] ∧ c (k + 1) = 0)
    (hs2 : ∀ k, 1 ≤ k → k < n → c k = 1 → xs.getD k 0 = 18446744073709551615 → D (k + 1) = D k ++ [0] ∧ c (k + 1) = 1) :
    Calls Tryz.prog 66 #[.slice (some ⟨b, o, none⟩) n cz, x, .int .u64 y] w (VecPost b (splice L o ((D n).map wv)) (c n) w) := by
  obtain ⟨a1, cx, rfl, hcx, _⟩ := id hx
  simp only [List.length_map, lx] at hx hcx ⊢
  obtain ⟨b1, o1, rfl, hb1, -, q0⟩ := hx.word 0 (by omega)
  rw [Nat.add_zero] at q0
  have hrd : Rd w b1 o1 (xs.map wv) := by
    obtain ⟨a', c', hv, hc, hr⟩ := hx
    obtain ⟨b', o', ha, hb, hrd⟩ := hr (by intro h; rw [List.map_eq_nil_iff] at h; subst h; simp at lx; omega)
    simp only [Value.slice.injEq] at hv
    obtain ⟨hv, _⟩ := hv
    rw [← hv] at ha
    injection ha with ha
    injection ha with e1 e2
    subst e1; subst e2
    exact hrd
  have hne : b ≠ b1 := by omega
  have hne' : ¬ b = b1 := hne
  obtain ⟨iW, hiW, hsW⟩ := infoWsz
  -- what a copy of the rest does
  have CP : Hid (∀ (W W' : World) (k : Nat), 1 ≤ k → k ≤ n → c k = 0 → Up (some b) w W → Blk W b 79 (splice L o ((D k).map wv)) → Hid (W'.heap[b]? = some (.cells (splice (splice L o ((D k).map wv)) (o + k) ((xs.drop k).map wv)).toArray 79 (0, 0))) → Blk W' b 79 (splice L o ((D n).map wv)) ∧ c n = 0) := Lib.hid (by
    intro W W' k hk1 hkn hc0 hu hb h
    obtain ⟨e1, e2⟩ := hdone k hk1 hkn hc0
    have hl := hlen k hkn
    have h2 : Blk W' b 79 (splice (splice L o ((D k).map wv)) (o + k) ((xs.drop k).map wv)) := h.out
    have e3 := splice_splice L o ((D k).map wv) ((xs.drop k).map wv) (by simp; omega)
    rw [List.length_map, hl] at e3
    rw [e3, ← List.map_append, ← e1] at h2
    exact ⟨h2, e2⟩)
  have PTR : Hid (∀ (W : World) (k : Nat), Up (some b) w W → Blk W b 79 (splice L o ((D k).map wv)) → ∀ m, (binOp .neq 107 (.pointer (some ⟨b, o, none⟩)) (.pointer (some ⟨b1, o1, none⟩))).run Tryz.prog (W.drewN m) = .ok (.bool true) (W.drewN m)) := Lib.hid (by
    intro W k hu hb m
    have hc : (W.drewN m).cell? ⟨b1, o1, none⟩ = some (.int .u64 ((xs.getD 0 0 : Nat) : Int)) := by
      have := (hrd.up hu (by omega) (by simp; omega)) 0 (by simp; omega)
      rw [getD_map_wv xs 0 (by omega)] at this
      exact this
    exact run_neq_ptr_rd Tryz.underlying107 hiW hsW (hb.drewN m) hc hne)
  have SRC : Hid (∀ (W : World) (k : Nat), Up (some b) w W → k < n → ∀ j v, ((xs.drop k).map wv)[j]? = some v → W.cell? ((⟨b1, o1 + k, none⟩ : Addr).add j) = some v) := Lib.hid (by
    intro W k hu hkn j v hj
    have hj2 : k + j < xs.length := by
      rcases Nat.lt_or_ge j ((xs.drop k).map wv).length with h | h
      · simp at h; omega
      · rw [List.getElem?_eq_none h] at hj; cases hj
    have := (hrd.up hu (by omega) (by simp; omega)) (k + j) (by simp; omega)
    rw [add_zero_off, Nat.add_assoc, this]
    rw [List.getElem?_map, List.getElem?_drop] at hj
    rw [List.getD_eq_getElem?_getD, List.getElem?_map, hj]; rfl)
  have A0 := Lib.hid (fun W => bitsAdd_any (xs.getD 0 0) y 0 W (by omega))
  simp only [Nat.add_zero, Int.natCast_zero] at A0
  have LEN := Lib.hid hlen
  have HRD := Lib.hid hrd
  have HX := Lib.hid hxs
  have S1 := Lib.hid hs1
  have S2 := Lib.hid hs2
  have C1 := Lib.hid h2
  have LX := Lib.hid lx
  have hcell := hk.cell o (by omega)
  have hf := hk.free o
  have hB1 : Blk (w.setCell ⟨b, o, none⟩ (.int .u64 (((xs.getD 0 0 + y) % 18446744073709551616 : Nat) : Int))) b 79 (splice L o ((D 1).map wv)) := by
    have h := hk.set o (wv ((xs.getD 0 0 + y) % 18446744073709551616))
    have e := splice_set L o 0 [] (wv ((xs.getD 0 0 + y) % 18446744073709551616)) rfl (by omega)
    rw [splice_nil, Nat.add_zero] at e
    rw [e] at h
    rw [h1]
    exact h
  have HB1 := Lib.hid hB1
  have hu1 : Up (some b) w (w.setCell ⟨b, o, none⟩ (.int .u64 (((xs.getD 0 0 + y) % 18446744073709551616 : Nat) : Int))) := (Up.refl _ _).set o _
  have HU1 := Lib.hid hu1
  have gx := hxs _ (show xs.getD 0 0 ∈ xs by rw [List.getD_eq_getElem?_getD, List.getElem?_eq_getElem (by omega)]; simp)
  have hcc : (xs.getD 0 0 + y) / 18446744073709551616 = 0 ∨ (xs.getD 0 0 + y) / 18446744073709551616 = 1 := by omega
  generalize L.getD o undef = cv at *
  generalize (xs.getD 0 0 + y) % 18446744073709551616 = d at *
  generalize (xs.getD 0 0 + y) / 18446744073709551616 = c0 at *
  generalize xs.getD 0 0 = x0 at *
  clear h1 h2 hx hk hrd hlen hdone hs1 hs2 hxs lx hB1 hu1 hiW hsW
  rcases hcc with rfl | rfl
  · have hp := PTR.out _ 1 HU1.out HB1.out
    have NN : Hid (((xs.drop 1).map wv).length = Nat.min (n - 1) (n - 1)) := Lib.hid (by have := LX.out; simp; omega)
    have FF : Hid (o + 1 + ((xs.drop 1).map wv).length ≤ (splice L o ((D 1).map wv)).length) := Lib.hid (by
      have h1 := LX.out
      have h2 := LEN.out 1 (by omega)
      rw [length_splice _ _ _ (by rw [List.length_map, h2]; omega)]
      simp; omega)
    have OO := Lib.hid (oneCell_wv (xs.drop 1))
    by_cases hn1 : n = 1
    · subst hn1
      have NIL : xs.drop 1 = [] := List.drop_of_length_le (by have := LX.out; omega)
      have HP : Hid (∀ {W : World} {dp sp : Option Addr}, 0 < ((xs.drop 1).map wv).length → dp = some (⟨b, o + 1, none⟩ : Addr) ∧ ∃ ad, sp = some ad ∧ ∀ j v, ((xs.drop 1).map wv)[j]? = some v → W.cell? (ad.add j) = some v) := Lib.hid (fun h => by rw [NIL] at h; simp at h)
      have hck : ¬ cz = 1 := by omega
      clear NIL
      by_cases hcx1 : cx = 1
      all_goals
        go_enter Tryz.func66, Tryz.ntmps66
        go_wp2_with (go_at_call 86; refine (A0.out _).mono ?_; rintro e w' ⟨rfl, rfl⟩)
        go_quiet (fail)
        go_wp2_with fail
        go_region_law (refine step_copy_up (by rfl) (.tmp 40) (.tmp 42) 52 52 (by rfl) 79 Tryz.underlying52 (by kernel_rfl) _ _ _ _ _ _ (by rfl) (by rfl) b (o + (1)) (splice L o ((D (1)).map wv)) 79 (by exact HB1.out) ((xs.drop (1)).map wv) NN.out HP.out FF.out OO.out w (by exact (HU1.out.drewN _).drewN 1) ?_; intro w2 hk2 hu2)
        go_wp2_with fail
        go_ret
        obtain ⟨r1, r2⟩ := CP.out _ w2 1 (by omega) (by omega) C1.out HU1.out HB1.out hk2
        exact ⟨by rw [r2]; rfl, r1, hu2.out⟩
    · have HP : Hid (∀ m, 0 < ((xs.drop 1).map wv).length → ∀ j v, ((xs.drop 1).map wv)[j]? = some v → (((w.setCell ⟨b, o, none⟩ (.int .u64 (d : Int))).drewN m).drew).cell? ((⟨b1, o1 + 1, none⟩ : Addr).add j) = some v) := Lib.hid (fun m hpos => SRC.out _ 1 ((HU1.out.drewN m).drewN 1) (by omega))
      have hck : ¬ cz = 1 := by omega
      have hck2 : ¬ cx = 1 := by omega
      have hi1 : (1 : Int) ≤ (n : Int) := by omega
      go_enter Tryz.func66, Tryz.ntmps66
      go_wp2_with (go_at_call 86; refine (A0.out _).mono ?_; rintro e w' ⟨rfl, rfl⟩)
      go_quiet (fail)
      go_wp2_with fail
      go_region_law (refine step_copy_up (by rfl) (.tmp 40) (.tmp 42) 52 52 (by rfl) 79 Tryz.underlying52 (by kernel_rfl) _ _ _ _ _ _ (by rfl) (by rfl) b (o + (1)) (splice L o ((D (1)).map wv)) 79 (by exact HB1.out) ((xs.drop (1)).map wv) NN.out (fun h => ⟨rfl, _, rfl, HP.out _ h⟩) FF.out OO.out w (by exact (HU1.out.drewN _).drewN 1) ?_; intro w2 hk2 hu2)
      go_wp2_with fail
      go_ret
      obtain ⟨r1, r2⟩ := CP.out _ w2 1 (by omega) (by omega) C1.out HU1.out HB1.out hk2
      exact ⟨by rw [r2]; rfl, r1, hu2.out⟩
  · go_enter Tryz.func66, Tryz.ntmps66
    go_wp2_with (go_at_call 86; refine (A0.out _).mono ?_; rintro e w' ⟨rfl, rfl⟩)
    go_loopw [9, 10] (fun i xi wr => ∃ k : Nat, 1 ≤ k ∧ k ≤ n ∧ i = .int .i64 k ∧ Hid (c k = 1) ∧ Hid (Blk wr b 79 (splice L o ((D k).map wv))) ∧ Hid (Up (some b) w wr)) (fun i _ _ => n - (intOf i).toNat)
    case atStart => exact ⟨1, by omega, by omega, rfl, C1, HB1, HU1⟩
    case round =>
      obtain ⟨k, hk1, hkn, rfl, hc, hb, hu⟩ := hrel
      by_cases hlt : k < n
      · have hlen2 : (splice L o ((D k).map wv)).length = L.length := length_splice _ _ _ (by rw [List.length_map, LEN.out k hkn]; omega)
        have q1 := (HRD.out.up hu.out (by omega) (by simp; omega)) k (by have := LX.out; simp; omega)
        rw [getD_map_wv xs k (by have := LX.out; omega)] at q1
        have p1 := hb.out.cell (o + k) (by rw [hlen2]; omega)
        have f1 := hb.out.free (o + k)
        have gu := getD_lt HX.out k (by have := LX.out; omega)
        have hi0 : (0 : Int) ≤ (k : Int) := by omega
        have hi1 : (k : Int) < (n : Int) := by omega
        have hset := splice_set L o k ((D k).map wv) (wv (xs.getD k 0 + 1)) (by rw [List.length_map, LEN.out k hkn]) (by omega)
        have hset0 := splice_set L o k ((D k).map wv) (wv 0) (by rw [List.length_map, LEN.out k hkn]) (by omega)
        have st1 := S1.out k hk1 hlt hc.out
        have st2 := S2.out k hk1 hlt hc.out
        have ST1 : Hid (xs.getD k 0 ≠ 18446744073709551615 → Blk (wr.setCell ⟨b, o + k, none⟩ (.int .u64 ((xs.getD k 0 : Nat) + 1))) b 79 (splice L o ((D (k + 1)).map wv)) ∧ c (k + 1) = 0) := Lib.hid (fun h => by
          obtain ⟨e1, e2⟩ := st1 h
          refine ⟨?_, e2⟩
          have := hb.out.set (o + k) (wv (xs.getD k 0 + 1))
          rw [hset] at this
          rw [e1, List.map_append]
          exact this)
        have ST2 : Hid (xs.getD k 0 = 18446744073709551615 → Blk (wr.setCell ⟨b, o + k, none⟩ (.int .u64 0)) b 79 (splice L o ((D (k + 1)).map wv)) ∧ c (k + 1) = 1) := Lib.hid (fun h => by
          obtain ⟨e1, e2⟩ := st2 h
          refine ⟨?_, e2⟩
          have := hb.out.set (o + k) (wv 0)
          rw [hset0] at this
          rw [e1, List.map_append]
          exact this)
        clear hset hset0 st1 st2 hlen2
        generalize (splice L o ((D k).map wv)).getD (o + k) undef = cv2 at *
        generalize xs.getD k 0 = u at *
        by_cases hu15 : u = 18446744073709551615
        · have hq : ((u : Int) != 18446744073709551615) = false := by simp; omega
          have HB2 := Lib.hid (ST2.out hu15).1
          have HC2 := Lib.hid (ST2.out hu15).2
          clear ST1 ST2 hu15
          go_wp2_with fail
          go_roundw
          case rel => exact ⟨k + 1, by omega, by omega, by go_num, HC2, HB2, Lib.hid (hu.out.set _ _)⟩
          case measure => simp [intOf]; omega
        · have hq : ((u : Int) != 18446744073709551615) = true := by simp; omega
          have hu2' : u < 18446744073709551615 := by omega
          have HB2 := Lib.hid (ST1.out hu15).1
          have HC2 := Lib.hid (ST1.out hu15).2
          have HU2 := Lib.hid (hu.out.set (o + k) (.int .u64 ((u : Nat) + 1)))
          have hp := PTR.out _ (k + 1) HU2.out HB2.out
          have NN : Hid (((xs.drop (k + 1)).map wv).length = Nat.min (n - (k + 1)) (n - (k + 1))) := Lib.hid (by have := LX.out; simp; omega)
          have FF : Hid (o + (k + 1) + ((xs.drop (k + 1)).map wv).length ≤ (splice L o ((D (k + 1)).map wv)).length) := Lib.hid (by
            have h1 := LX.out
            have h2 := LEN.out (k + 1) (by omega)
            rw [length_splice _ _ _ (by rw [List.length_map, h2]; omega)]
            simp; omega)
          have OO := Lib.hid (oneCell_wv (xs.drop (k + 1)))
          clear ST1 ST2 hu15
          have hi2 : (0 : Int) ≤ (k : Int) + 1 := by omega
          have hi3 : (k : Int) + 1 ≤ (n : Int) := by omega
          have EW := Lib.hid (show IntKind.i64.wrap ((k : Int) + 1) = (k : Int) + 1 from IntWalk.i64_in _ (by omega))
          have ek : ((k : Int) + 1).toNat = k + 1 := by omega
          have FIN : Hid (∀ w2, Hid (Blk w2 b 79 (splice (splice L o ((D (k + 1)).map wv)) (o + (k + 1)) ((xs.drop (k + 1)).map wv))) → Blk w2 b 79 (splice L o ((D n).map wv)) ∧ c n = 0) := Lib.hid (fun w2 h => CP.out _ w2 (k + 1) (by omega) (by omega) HC2.out HU2.out HB2.out h)
          by_cases hn1 : n = k + 1
          · have NIL : xs.drop (k + 1) = [] := List.drop_of_length_le (by have := LX.out; omega)
            have HP : Hid (∀ {W : World} {dp sp : Option Addr}, 0 < ((xs.drop (k + 1)).map wv).length → dp = some (⟨b, o + (k + 1), none⟩ : Addr) ∧ ∃ ad, sp = some ad ∧ ∀ j v, ((xs.drop (k + 1)).map wv)[j]? = some v → W.cell? (ad.add j) = some v) := Lib.hid (fun h => by rw [NIL] at h; simp at h)
            have hck : ¬ cz = k + 1 := by omega
            clear NIL hn1
            by_cases hcx1 : cx = k + 1
            all_goals
              have ew := EW.out
              go_wp2_with fail
              go_quiet (fail)
              go_wp2_with fail
              go_region_held3 (fun _ => True) (trivial) ((refine step_copy_up (by rfl) (.tmp 69) (.tmp 73) 52 52 (by rfl) 79 Tryz.underlying52 (by kernel_rfl) _ _ _ _ _ _ (by rfl) (by rfl) b (o + (k + 1)) (splice L o ((D (k + 1)).map wv)) 79 (by exact HB2.out) ((xs.drop (k + 1)).map wv) NN.out HP.out FF.out OO.out w (by exact (HU2.out.drewN _).drewN 1) ?_; intro w2 hk2 hu2))
              go_wp2_with fail
              go_ret
              obtain ⟨r1, r2⟩ := FIN.out w2 hk2
              exact ⟨by rw [r2]; rfl, r1, hu2.out⟩
          · have HP : Hid (∀ m, 0 < ((xs.drop (k + 1)).map wv).length → ∀ j v, ((xs.drop (k + 1)).map wv)[j]? = some v → (((wr.setCell ⟨b, o + k, none⟩ (.int .u64 ((u : Nat) + 1))).drewN m).drew).cell? ((⟨b1, o1 + (k + 1), none⟩ : Addr).add j) = some v) := Lib.hid (fun m hpos => SRC.out _ (k + 1) ((HU2.out.drewN m).drewN 1) (by omega))
            have hck : ¬ cz = k + 1 := by omega
            have hck2 : ¬ cx = k + 1 := by omega
            have ew := EW.out
            go_wp2_with fail
            go_quiet (fail)
            go_wp2_with fail
            go_region_held3 (fun _ => True) (trivial) ((refine step_copy_up (by rfl) (.tmp 69) (.tmp 73) 52 52 (by rfl) 79 Tryz.underlying52 (by kernel_rfl) _ _ _ _ _ _ (by rfl) (by rfl) b (o + (k + 1)) (splice L o ((D (k + 1)).map wv)) 79 (by exact HB2.out) ((xs.drop (k + 1)).map wv) NN.out (fun h => ⟨rfl, _, rfl, HP.out _ h⟩) FF.out OO.out w (by exact (HU2.out.drewN _).drewN 1) ?_; intro w2 hk2 hu2))
            go_wp2_with fail
            go_ret
            obtain ⟨r1, r2⟩ := FIN.out w2 hk2
            exact ⟨by rw [r2]; rfl, r1, hu2.out⟩
      · obtain rfl : k = n := by omega
        go_wp2_with fail
        go_ret
        exact ⟨by rw [hc.out]; rfl, hb.out, hu.out⟩
end Go.Proofs.YtpcnmgldmnncoaaGreatDoor

namespace Go.Proofs.YtpcnmgldmnncoaaGreatDoor
open Go.RowKit Dig
set_option linter.unusedVariables false
set_option linter.unusedSimpArgs false
set_option maxRecDepth 100000

set_option maxHeartbeats 1600000 in
theorem subVW_walk (xs : List Nat) (y : Nat) (L : List Value) (b o n cz B : Nat) (x : Value) (w : World) (D : Nat → List Nat) (c : Nat → Nat) (hx : Sl w B x (xs.map wv)) (lx : xs.length = n)
    (hxs : ∀ x ∈ xs, x < 18446744073709551616) (h0 : 0 < n) (hcz : n ≤ cz) (hB : B ≤ b) (hBw : B ≤ w.heap.size) (hk : Blk w b 79 L) (hn : o + n ≤ L.length) (hl : n ≤ 1048576)
    (hlen : ∀ k, k ≤ n → (D k).length = k) (hy : y ≤ 1) (h1 : D 1 = [(xs.getD 0 0 + 18446744073709551616 - y) % 18446744073709551616]) (h2 : c 1 = (if xs.getD 0 0 < y then 1 else 0))
    (hdone : ∀ k, 1 ≤ k → k ≤ n → c k = 0 → D n = D k ++ xs.drop k ∧ c n = 0)
    (hs1 : ∀ k, 1 ≤ k → k < n → c k = 1 → xs.getD k 0 ≠ 0 → D (k + 1) = D k ++ [xs.getD k 0 - 1] ∧ c (k + 1) = 0)
    (hs2 : ∀ k, 1 ≤ k → k < n → c k = 1 → xs.getD k 0 = 0 → D (k + 1) = D k ++ [18446744073709551615] ∧ c (k + 1) = 1) :
    Calls Tryz.prog 68 #[.slice (some ⟨b, o, none⟩) n cz, x, .int .u64 y] w (VecPost b (splice L o ((D n).map wv)) (c n) w) := by
  obtain ⟨a1, cx, rfl, hcx, _⟩ := id hx
  simp only [List.length_map, lx] at hx hcx ⊢
  obtain ⟨b1, o1, rfl, hb1, -, q0⟩ := hx.word 0 (by omega)
  rw [Nat.add_zero] at q0
  have hrd : Rd w b1 o1 (xs.map wv) := by
    obtain ⟨a', c', hv, hc, hr⟩ := hx
    obtain ⟨b', o', ha, hb, hrd⟩ := hr (by intro h; rw [List.map_eq_nil_iff] at h; subst h; simp at lx; omega)
    simp only [Value.slice.injEq] at hv
    obtain ⟨hv, _⟩ := hv
    rw [← hv] at ha
    injection ha with ha
    injection ha with e1 e2
    subst e1; subst e2
    exact hrd
  have hne : b ≠ b1 := by omega
  have hne' : ¬ b = b1 := hne
  obtain ⟨iW, hiW, hsW⟩ := infoWsz
  -- what a copy of the rest does
  have CP : Hid (∀ (W W' : World) (k : Nat), 1 ≤ k → k ≤ n → c k = 0 → Up (some b) w W → Blk W b 79 (splice L o ((D k).map wv)) → Hid (W'.heap[b]? = some (.cells (splice (splice L o ((D k).map wv)) (o + k) ((xs.drop k).map wv)).toArray 79 (0, 0))) → Blk W' b 79 (splice L o ((D n).map wv)) ∧ c n = 0) := Lib.hid (by
    intro W W' k hk1 hkn hc0 hu hb h
    obtain ⟨e1, e2⟩ := hdone k hk1 hkn hc0
    have hl := hlen k hkn
    have h2 : Blk W' b 79 (splice (splice L o ((D k).map wv)) (o + k) ((xs.drop k).map wv)) := h.out
    have e3 := splice_splice L o ((D k).map wv) ((xs.drop k).map wv) (by simp; omega)
    rw [List.length_map, hl] at e3
    rw [e3, ← List.map_append, ← e1] at h2
    exact ⟨h2, e2⟩)
  have PTR : Hid (∀ (W : World) (k : Nat), Up (some b) w W → Blk W b 79 (splice L o ((D k).map wv)) → ∀ m, (binOp .neq 107 (.pointer (some ⟨b, o, none⟩)) (.pointer (some ⟨b1, o1, none⟩))).run Tryz.prog (W.drewN m) = .ok (.bool true) (W.drewN m)) := Lib.hid (by
    intro W k hu hb m
    have hc : (W.drewN m).cell? ⟨b1, o1, none⟩ = some (.int .u64 ((xs.getD 0 0 : Nat) : Int)) := by
      have := (hrd.up hu (by omega) (by simp; omega)) 0 (by simp; omega)
      rw [getD_map_wv xs 0 (by omega)] at this
      exact this
    exact run_neq_ptr_rd Tryz.underlying107 hiW hsW (hb.drewN m) hc hne)
  have SRC : Hid (∀ (W : World) (k : Nat), Up (some b) w W → k < n → ∀ j v, ((xs.drop k).map wv)[j]? = some v → W.cell? ((⟨b1, o1 + k, none⟩ : Addr).add j) = some v) := Lib.hid (by
    intro W k hu hkn j v hj
    have hj2 : k + j < xs.length := by
      rcases Nat.lt_or_ge j ((xs.drop k).map wv).length with h | h
      · simp at h; omega
      · rw [List.getElem?_eq_none h] at hj; cases hj
    have := (hrd.up hu (by omega) (by simp; omega)) (k + j) (by simp; omega)
    rw [add_zero_off, Nat.add_assoc, this]
    rw [List.getElem?_map, List.getElem?_drop] at hj
    rw [List.getD_eq_getElem?_getD, List.getElem?_map, hj]; rfl)
  have A0 := Lib.hid (fun W => bitsSub_any (xs.getD 0 0) y 0 W (by omega))
  simp only [Nat.add_zero, Nat.sub_zero, Int.natCast_zero] at A0
  have LEN := Lib.hid hlen
  have HRD := Lib.hid hrd
  have HX := Lib.hid hxs
  have S1 := Lib.hid hs1
  have S2 := Lib.hid hs2
  have C1 := Lib.hid h2
  have LX := Lib.hid lx
  have hcell := hk.cell o (by omega)
  have hf := hk.free o
  have hB1 : Blk (w.setCell ⟨b, o, none⟩ (.int .u64 (((xs.getD 0 0 + 18446744073709551616 - y) % 18446744073709551616 : Nat) : Int))) b 79 (splice L o ((D 1).map wv)) := by
    have h := hk.set o (wv ((xs.getD 0 0 + 18446744073709551616 - y) % 18446744073709551616))
    have e := splice_set L o 0 [] (wv ((xs.getD 0 0 + 18446744073709551616 - y) % 18446744073709551616)) rfl (by omega)
    rw [splice_nil, Nat.add_zero] at e
    rw [e] at h
    rw [h1]
    exact h
  have HB1 := Lib.hid hB1
  have hu1 : Up (some b) w (w.setCell ⟨b, o, none⟩ (.int .u64 (((xs.getD 0 0 + 18446744073709551616 - y) % 18446744073709551616 : Nat) : Int))) := (Up.refl _ _).set o _
  have HU1 := Lib.hid hu1
  have gx := hxs _ (show xs.getD 0 0 ∈ xs by rw [List.getD_eq_getElem?_getD, List.getElem?_eq_getElem (by omega)]; simp)
  have hcc : (if xs.getD 0 0 < y then 1 else 0) = 0 ∨ (if xs.getD 0 0 < y then 1 else 0) = 1 := by split <;> omega
  generalize L.getD o undef = cv at *
  generalize (xs.getD 0 0 + 18446744073709551616 - y) % 18446744073709551616 = d at *
  generalize (if xs.getD 0 0 < y then 1 else 0) = c0 at *
  generalize xs.getD 0 0 = x0 at *
  clear h1 h2 hx hk hrd hlen hdone hs1 hs2 hxs lx hB1 hu1 hiW hsW
  rcases hcc with rfl | rfl
  · have hp := PTR.out _ 1 HU1.out HB1.out
    have NN : Hid (((xs.drop 1).map wv).length = Nat.min (n - 1) (n - 1)) := Lib.hid (by have := LX.out; simp; omega)
    have FF : Hid (o + 1 + ((xs.drop 1).map wv).length ≤ (splice L o ((D 1).map wv)).length) := Lib.hid (by
      have h1 := LX.out
      have h2 := LEN.out 1 (by omega)
      rw [length_splice _ _ _ (by rw [List.length_map, h2]; omega)]
      simp; omega)
    have OO := Lib.hid (oneCell_wv (xs.drop 1))
    by_cases hn1 : n = 1
    · subst hn1
      have NIL : xs.drop 1 = [] := List.drop_of_length_le (by have := LX.out; omega)
      have HP : Hid (∀ {W : World} {dp sp : Option Addr}, 0 < ((xs.drop 1).map wv).length → dp = some (⟨b, o + 1, none⟩ : Addr) ∧ ∃ ad, sp = some ad ∧ ∀ j v, ((xs.drop 1).map wv)[j]? = some v → W.cell? (ad.add j) = some v) := Lib.hid (fun h => by rw [NIL] at h; simp at h)

      clear NIL
      rcases Nat.decEq cz 1 with hck | hck <;> rcases Nat.decEq cx 1 with hcx1 | hcx1
      all_goals
        go_enter Tryz.func68, Tryz.ntmps68
        go_wp2_with (go_at_call 88; refine (A0.out _).mono ?_; rintro e w' ⟨rfl, rfl⟩)
        go_quiet (fail)
        go_wp2_with fail
        go_region_law (refine step_copy_up (by rfl) (.tmp 40) (.tmp 42) 52 52 (by rfl) 79 Tryz.underlying52 (by kernel_rfl) _ _ _ _ _ _ (by rfl) (by rfl) b (o + (1)) (splice L o ((D (1)).map wv)) 79 (by exact HB1.out) ((xs.drop (1)).map wv) NN.out HP.out FF.out OO.out w (by exact (HU1.out.drewN _).drewN 1) ?_; intro w2 hk2 hu2)
        go_wp2_with fail
        go_ret
        obtain ⟨r1, r2⟩ := CP.out _ w2 1 (by omega) (by omega) C1.out HU1.out HB1.out hk2
        exact ⟨by rw [r2]; rfl, r1, hu2.out⟩
    · have HP : Hid (∀ m, 0 < ((xs.drop 1).map wv).length → ∀ j v, ((xs.drop 1).map wv)[j]? = some v → (((w.setCell ⟨b, o, none⟩ (.int .u64 (d : Int))).drewN m).drew).cell? ((⟨b1, o1 + 1, none⟩ : Addr).add j) = some v) := Lib.hid (fun m hpos => SRC.out _ 1 ((HU1.out.drewN m).drewN 1) (by omega))
      have hck : ¬ cz = 1 := by omega
      have hck2 : ¬ cx = 1 := by omega
      have hi1 : (1 : Int) ≤ (n : Int) := by omega
      go_enter Tryz.func68, Tryz.ntmps68
      go_wp2_with (go_at_call 88; refine (A0.out _).mono ?_; rintro e w' ⟨rfl, rfl⟩)
      go_quiet (fail)
      go_wp2_with fail
      go_region_law (refine step_copy_up (by rfl) (.tmp 40) (.tmp 42) 52 52 (by rfl) 79 Tryz.underlying52 (by kernel_rfl) _ _ _ _ _ _ (by rfl) (by rfl) b (o + (1)) (splice L o ((D (1)).map wv)) 79 (by exact HB1.out) ((xs.drop (1)).map wv) NN.out (fun h => ⟨rfl, _, rfl, HP.out _ h⟩) FF.out OO.out w (by exact (HU1.out.drewN _).drewN 1) ?_; intro w2 hk2 hu2)
      go_wp2_with fail
      go_ret
      obtain ⟨r1, r2⟩ := CP.out _ w2 1 (by omega) (by omega) C1.out HU1.out HB1.out hk2
      exact ⟨by rw [r2]; rfl, r1, hu2.out⟩
  · go_enter Tryz.func68, Tryz.ntmps68
    go_wp2_with (go_at_call 88; refine (A0.out _).mono ?_; rintro e w' ⟨rfl, rfl⟩)
    go_loopw [9, 10] (fun i xi wr => ∃ k : Nat, 1 ≤ k ∧ k ≤ n ∧ i = .int .i64 k ∧ Hid (c k = 1) ∧ Hid (Blk wr b 79 (splice L o ((D k).map wv))) ∧ Hid (Up (some b) w wr)) (fun i _ _ => n - (intOf i).toNat)
    case atStart => exact ⟨1, by omega, by omega, rfl, C1, HB1, HU1⟩
    case round =>
      obtain ⟨k, hk1, hkn, rfl, hc, hb, hu⟩ := hrel
      by_cases hlt : k < n
      · have hlen2 : (splice L o ((D k).map wv)).length = L.length := length_splice _ _ _ (by rw [List.length_map, LEN.out k hkn]; omega)
        have q1 := (HRD.out.up hu.out (by omega) (by simp; omega)) k (by have := LX.out; simp; omega)
        rw [getD_map_wv xs k (by have := LX.out; omega)] at q1
        have p1 := hb.out.cell (o + k) (by rw [hlen2]; omega)
        have f1 := hb.out.free (o + k)
        have gu := getD_lt HX.out k (by have := LX.out; omega)
        have hi0 : (0 : Int) ≤ (k : Int) := by omega
        have hi1 : (k : Int) < (n : Int) := by omega
        have hset := splice_set L o k ((D k).map wv) (wv (xs.getD k 0 - 1)) (by rw [List.length_map, LEN.out k hkn]) (by omega)
        have hset0 := splice_set L o k ((D k).map wv) (wv 18446744073709551615) (by rw [List.length_map, LEN.out k hkn]) (by omega)
        have st1 := S1.out k hk1 hlt hc.out
        have st2 := S2.out k hk1 hlt hc.out
        have ST1 : Hid (xs.getD k 0 ≠ 0 → Blk (wr.setCell ⟨b, o + k, none⟩ (.int .u64 (((xs.getD k 0 : Nat) : Int) - 1))) b 79 (splice L o ((D (k + 1)).map wv)) ∧ c (k + 1) = 0) := Lib.hid (fun h => by
          obtain ⟨e1, e2⟩ := st1 h
          refine ⟨?_, e2⟩
          have := hb.out.set (o + k) (wv (xs.getD k 0 - 1))
          rw [hset] at this
          rw [e1, List.map_append]
          have e5 : wv (xs.getD k 0 - 1) = .int .u64 (((xs.getD k 0 : Nat) : Int) - 1) := by unfold wv; congr 1; omega
          rw [← e5]
          exact this)
        have ST2 : Hid (xs.getD k 0 = 0 → Blk (wr.setCell ⟨b, o + k, none⟩ (.int .u64 18446744073709551615)) b 79 (splice L o ((D (k + 1)).map wv)) ∧ c (k + 1) = 1) := Lib.hid (fun h => by
          obtain ⟨e1, e2⟩ := st2 h
          refine ⟨?_, e2⟩
          have := hb.out.set (o + k) (wv 18446744073709551615)
          rw [hset0] at this
          rw [e1, List.map_append]
          exact this)
        clear hset hset0 st1 st2 hlen2
        generalize (splice L o ((D k).map wv)).getD (o + k) undef = cv2 at *
        generalize xs.getD k 0 = u at *
        by_cases hu15 : u = 0
        · have hq : ((u : Int) != 0) = false := by simp; omega
          have HB2 := Lib.hid (ST2.out hu15).1
          have HC2 := Lib.hid (ST2.out hu15).2
          clear ST1 ST2 hu15
          go_wp2_with fail
          go_roundw
          case rel => exact ⟨k + 1, by omega, by omega, by go_num, HC2, HB2, Lib.hid (hu.out.set _ _)⟩
          case measure => simp [intOf]; omega
        · have hq : ((u : Int) != 0) = true := by simp; omega
          have hu2' : 0 < u := by omega
          have HB2 := Lib.hid (ST1.out hu15).1
          have HC2 := Lib.hid (ST1.out hu15).2
          have HU2 := Lib.hid (hu.out.set (o + k) (.int .u64 ((u : Int) - 1)))
          have hp := PTR.out _ (k + 1) HU2.out HB2.out
          have NN : Hid (((xs.drop (k + 1)).map wv).length = Nat.min (n - (k + 1)) (n - (k + 1))) := Lib.hid (by have := LX.out; simp; omega)
          have FF : Hid (o + (k + 1) + ((xs.drop (k + 1)).map wv).length ≤ (splice L o ((D (k + 1)).map wv)).length) := Lib.hid (by
            have h1 := LX.out
            have h2 := LEN.out (k + 1) (by omega)
            rw [length_splice _ _ _ (by rw [List.length_map, h2]; omega)]
            simp; omega)
          have OO := Lib.hid (oneCell_wv (xs.drop (k + 1)))
          clear ST1 ST2 hu15
          have hi2 : (0 : Int) ≤ (k : Int) + 1 := by omega
          have hi3 : (k : Int) + 1 ≤ (n : Int) := by omega
          have EW := Lib.hid (show IntKind.i64.wrap ((k : Int) + 1) = (k : Int) + 1 from IntWalk.i64_in _ (by omega))
          have ek : ((k : Int) + 1).toNat = k + 1 := by omega
          have FIN : Hid (∀ w2, Hid (Blk w2 b 79 (splice (splice L o ((D (k + 1)).map wv)) (o + (k + 1)) ((xs.drop (k + 1)).map wv))) → Blk w2 b 79 (splice L o ((D n).map wv)) ∧ c n = 0) := Lib.hid (fun w2 h => CP.out _ w2 (k + 1) (by omega) (by omega) HC2.out HU2.out HB2.out h)
          by_cases hn1 : n = k + 1
          · have NIL : xs.drop (k + 1) = [] := List.drop_of_length_le (by have := LX.out; omega)
            have HP : Hid (∀ {W : World} {dp sp : Option Addr}, 0 < ((xs.drop (k + 1)).map wv).length → dp = some (⟨b, o + (k + 1), none⟩ : Addr) ∧ ∃ ad, sp = some ad ∧ ∀ j v, ((xs.drop (k + 1)).map wv)[j]? = some v → W.cell? (ad.add j) = some v) := Lib.hid (fun h => by rw [NIL] at h; simp at h)

            clear NIL hn1
            rcases Nat.decEq cz (k + 1) with hck | hck <;> rcases Nat.decEq cx (k + 1) with hcx1 | hcx1
            all_goals
              have ew := EW.out
              go_wp2_with fail
              go_quiet (fail)
              go_wp2_with fail
              go_region_held3 (fun _ => True) (trivial) ((refine step_copy_up (by rfl) (.tmp 69) (.tmp 73) 52 52 (by rfl) 79 Tryz.underlying52 (by kernel_rfl) _ _ _ _ _ _ (by rfl) (by rfl) b (o + (k + 1)) (splice L o ((D (k + 1)).map wv)) 79 (by exact HB2.out) ((xs.drop (k + 1)).map wv) NN.out HP.out FF.out OO.out w (by exact (HU2.out.drewN _).drewN 1) ?_; intro w2 hk2 hu2))
              go_wp2_with fail
              go_ret
              obtain ⟨r1, r2⟩ := FIN.out w2 hk2
              exact ⟨by rw [r2]; rfl, r1, hu2.out⟩
          · have HP : Hid (∀ m, 0 < ((xs.drop (k + 1)).map wv).length → ∀ j v, ((xs.drop (k + 1)).map wv)[j]? = some v → (((wr.setCell ⟨b, o + k, none⟩ (.int .u64 ((u : Int) - 1))).drewN m).drew).cell? ((⟨b1, o1 + (k + 1), none⟩ : Addr).add j) = some v) := Lib.hid (fun m hpos => SRC.out _ (k + 1) ((HU2.out.drewN m).drewN 1) (by omega))
            have hck : ¬ cz = k + 1 := by omega
            have hck2 : ¬ cx = k + 1 := by omega
            have ew := EW.out
            go_wp2_with fail
            go_quiet (fail)
            go_wp2_with fail
            go_region_held3 (fun _ => True) (trivial) ((refine step_copy_up (by rfl) (.tmp 69) (.tmp 73) 52 52 (by rfl) 79 Tryz.underlying52 (by kernel_rfl) _ _ _ _ _ _ (by rfl) (by rfl) b (o + (k + 1)) (splice L o ((D (k + 1)).map wv)) 79 (by exact HB2.out) ((xs.drop (k + 1)).map wv) NN.out (fun h => ⟨rfl, _, rfl, HP.out _ h⟩) FF.out OO.out w (by exact (HU2.out.drewN _).drewN 1) ?_; intro w2 hk2 hu2))
            go_wp2_with fail
            go_ret
            obtain ⟨r1, r2⟩ := FIN.out w2 hk2
            exact ⟨by rw [r2]; rfl, r1, hu2.out⟩
      · obtain rfl : k = n := by omega
        go_wp2_with fail
        go_ret
        exact ⟨by rw [hc.out]; rfl, hb.out, hu.out⟩

/-- a row and one word more: the first k words, what is carried -/
def svK (xs : List Nat) (y k : Nat) : Nat := nval 18446744073709551616 (xs.take k) + y
theorem svK_succ (xs : List Nat) (y k : Nat) (hk : k < xs.length) : svK xs y (k + 1) = svK xs y k + 18446744073709551616 ^ k * xs.getD k 0 := by
  unfold svK
  rw [nval_take_succ _ xs k hk]; omega
theorem svK_step (xs : List Nat) (y k : Nat) (hk : k < xs.length) :
    dgs 18446744073709551616 (k + 1) (svK xs y (k + 1)) = dgs 18446744073709551616 k (svK xs y k) ++ [(svK xs y k / 18446744073709551616 ^ k + xs.getD k 0) % 18446744073709551616] ∧
    svK xs y (k + 1) / 18446744073709551616 ^ (k + 1) = (svK xs y k / 18446744073709551616 ^ k + xs.getD k 0) / 18446744073709551616 := by
  rw [svK_succ xs y k hk]
  exact dgs_step _ _ _ _ (by omega)
theorem drop_getD (xs : List Nat) (k : Nat) (hk : k < xs.length) : xs.drop k = xs.getD k 0 :: xs.drop (k + 1) := by
  rw [List.drop_eq_getElem_cons hk, List.getD_eq_getElem?_getD, List.getElem?_eq_getElem hk]; rfl
/-- nothing carried any more: the rest is as it was -/
theorem svK_done (xs : List Nat) (y : Nat) (hxs : ∀ x ∈ xs, x < 18446744073709551616) (d : Nat) : ∀ k, k + d = xs.length → svK xs y k / 18446744073709551616 ^ k = 0 →
    dgs 18446744073709551616 xs.length (svK xs y xs.length) = dgs 18446744073709551616 k (svK xs y k) ++ xs.drop k ∧ svK xs y xs.length / 18446744073709551616 ^ xs.length = 0 := by
  induction d with
  | zero =>
    intro k hk h0
    obtain rfl : k = xs.length := by omega
    exact ⟨by simp, h0⟩
  | succ d ih =>
    intro k hk h0
    have hlt : k < xs.length := by omega
    obtain ⟨e1, e2⟩ := svK_step xs y k hlt
    have hu := getD_lt hxs k hlt
    rw [h0, Nat.zero_add, Nat.mod_eq_of_lt hu] at e1
    rw [h0, Nat.zero_add, Nat.div_eq_of_lt hu] at e2
    obtain ⟨f1, f2⟩ := ih (k + 1) (by omega) e2
    refine ⟨?_, f2⟩
    rw [f1, e1, drop_getD xs k hlt, List.append_assoc]; rfl

def VecNum (b : Nat) (L : List Value) (o n m c : Nat) : World → Ending → World → Prop := VecPost b (splice L o ((dgs 18446744073709551616 n m).map wv)) c
theorem addVW_any (xs : List Nat) (y : Nat) (L : List Value) (b o n cz B : Nat) (x : Value) (w : World) (hx : Sl w B x (xs.map wv)) (lx : xs.length = n)
    (hxs : ∀ x ∈ xs, x < 18446744073709551616) (h0 : 0 < n) (hcz : n < cz) (hB : B ≤ b) (hBw : B ≤ w.heap.size) (hk : Blk w b 79 L) (hn : o + n ≤ L.length) (hl : n ≤ 1048576) (hy : y < 18446744073709551616) :
    Calls Tryz.prog 66 #[.slice (some ⟨b, o, none⟩) n cz, x, .int .u64 y] w (VecNum b L o n (nval 18446744073709551616 xs + y) ((nval 18446744073709551616 xs + y) / 18446744073709551616 ^ n) w) := by
  have e : svK xs y n = nval 18446744073709551616 xs + y := by unfold svK; rw [List.take_of_length_le (by omega)]
  rw [← e]
  have s0 : svK xs y 0 = y := by simp [svK, nval]
  have st0 := svK_step xs y 0 (by omega)
  rw [s0] at st0
  simp only [Nat.pow_zero, Nat.div_one, Nat.zero_add, Nat.pow_one, dgs, List.nil_append] at st0
  refine addVW_walk xs y L b o n cz B x w (fun k => dgs 18446744073709551616 k (svK xs y k)) (fun k => svK xs y k / 18446744073709551616 ^ k) hx lx hxs h0 hcz hB hBw hk hn hl (fun k _ => dgs_length _ _ _) hy ?_ ?_ ?_ ?_ ?_
  · simp only [dgs]; rw [st0.1, Nat.add_comm y]
  · simp only [Nat.pow_one]; rw [st0.2, Nat.add_comm y]
  · intro k hk1 hkn hc
    have := svK_done xs y hxs (n - k) k (by omega) hc
    rwa [lx] at this
  · intro k hk1 hkn hc hu
    obtain ⟨e1, e2⟩ := svK_step xs y k (by omega)
    have hlt := getD_lt hxs k (by omega)
    rw [hc] at e1 e2
    rw [Nat.mod_eq_of_lt (by omega), Nat.add_comm 1] at e1
    rw [Nat.div_eq_of_lt (show 1 + xs.getD k 0 < 18446744073709551616 by omega)] at e2
    exact ⟨e1, e2⟩
  · intro k hk1 hkn hc hu
    obtain ⟨e1, e2⟩ := svK_step xs y k (by omega)
    rw [hc, hu] at e1 e2
    exact ⟨e1, e2⟩

/-- a row less one word -/
def dvK (xs : List Nat) (y k : Nat) : Nat := nval 18446744073709551616 (xs.take k) + 18446744073709551616 ^ k - y
def bvK (xs : List Nat) (y k : Nat) : Nat := if nval 18446744073709551616 (xs.take k) < y then 1 else 0
theorem dvK_step (xs : List Nat) (y k : Nat) (hxs : ∀ x ∈ xs, x < 18446744073709551616) (hy : y ≤ 1) (hk1 : 1 ≤ k) (hk : k < xs.length) :
    dgs 18446744073709551616 (k + 1) (dvK xs y (k + 1)) = dgs 18446744073709551616 k (dvK xs y k) ++ [(xs.getD k 0 + 18446744073709551616 - bvK xs y k) % 18446744073709551616] ∧
    bvK xs y (k + 1) = if xs.getD k 0 < bvK xs y k then 1 else 0 := by
  have hp : (18446744073709551616 : Nat) ^ 1 ≤ 18446744073709551616 ^ k := Nat.pow_le_pow_right (by omega) hk1
  have h := sub_step 18446744073709551616 k (nval 18446744073709551616 (xs.take k)) y (xs.getD k 0) 0 (by omega) (take_lt hxs k) (by omega) (by omega)
  simp only [Nat.mul_zero, Nat.add_zero, Nat.sub_zero, Nat.zero_add] at h
  unfold dvK bvK
  rw [nval_take_succ _ xs k hk]
  exact h
theorem dvK_done (xs : List Nat) (y : Nat) (hxs : ∀ x ∈ xs, x < 18446744073709551616) (hy : y ≤ 1) (d : Nat) : ∀ k, 1 ≤ k → k + d = xs.length → bvK xs y k = 0 →
    dgs 18446744073709551616 xs.length (dvK xs y xs.length) = dgs 18446744073709551616 k (dvK xs y k) ++ xs.drop k ∧ bvK xs y xs.length = 0 := by
  induction d with
  | zero =>
    intro k _ hk h0
    obtain rfl : k = xs.length := by omega
    exact ⟨by simp, h0⟩
  | succ d ih =>
    intro k hk1 hk h0
    have hlt : k < xs.length := by omega
    obtain ⟨e1, e2⟩ := dvK_step xs y k hxs hy hk1 hlt
    have hu := getD_lt hxs k hlt
    rw [h0] at e1 e2
    rw [Nat.sub_zero, Nat.add_mod_right, Nat.mod_eq_of_lt hu] at e1
    rw [if_neg (by omega)] at e2
    obtain ⟨f1, f2⟩ := ih (k + 1) (by omega) (by omega) e2
    refine ⟨?_, f2⟩
    rw [f1, e1, drop_getD xs k hlt, List.append_assoc]; rfl
theorem subVW_any (xs : List Nat) (y : Nat) (L : List Value) (b o n cz B : Nat) (x : Value) (w : World) (hx : Sl w B x (xs.map wv)) (lx : xs.length = n)
    (hxs : ∀ x ∈ xs, x < 18446744073709551616) (h0 : 0 < n) (hcz : n ≤ cz) (hB : B ≤ b) (hBw : B ≤ w.heap.size) (hk : Blk w b 79 L) (hn : o + n ≤ L.length) (hl : n ≤ 1048576) (hy : y ≤ 1) :
    Calls Tryz.prog 68 #[.slice (some ⟨b, o, none⟩) n cz, x, .int .u64 y] w (VecNum b L o n (nval 18446744073709551616 xs + 18446744073709551616 ^ n - y) (if nval 18446744073709551616 xs < y then 1 else 0) w) := by
  have e : dvK xs y n = nval 18446744073709551616 xs + 18446744073709551616 ^ n - y := by unfold dvK; rw [List.take_of_length_le (by omega)]
  have e' : bvK xs y n = if nval 18446744073709551616 xs < y then 1 else 0 := by unfold bvK; rw [List.take_of_length_le (by omega)]
  rw [← e, ← e']
  have t1 : nval 18446744073709551616 (xs.take 1) = xs.getD 0 0 := by
    have := nval_take_succ 18446744073709551616 xs 0 (by omega)
    simpa [nval] using this
  refine subVW_walk xs y L b o n cz B x w (fun k => dgs 18446744073709551616 k (dvK xs y k)) (fun k => bvK xs y k) hx lx hxs h0 hcz hB hBw hk hn hl (fun k _ => dgs_length _ _ _) hy ?_ ?_ ?_ ?_ ?_
  · simp only [dgs, dvK, t1, Nat.pow_one]
  · simp only [bvK, t1]
  · intro k hk1 hkn hc
    have := dvK_done xs y hxs hy (n - k) k hk1 (by omega) hc
    rwa [lx] at this
  · intro k hk1 hkn hc hu
    obtain ⟨e1, e2⟩ := dvK_step xs y k hxs hy hk1 (by omega)
    have hlt := getD_lt hxs k (by omega)
    rw [hc] at e1 e2
    rw [show xs.getD k 0 + 18446744073709551616 - 1 = (xs.getD k 0 - 1) + 18446744073709551616 by omega, Nat.add_mod_right, Nat.mod_eq_of_lt (by omega)] at e1
    rw [if_neg (by omega)] at e2
    exact ⟨e1, e2⟩
  · intro k hk1 hkn hc hu
    obtain ⟨e1, e2⟩ := dvK_step xs y k hxs hy hk1 (by omega)
    rw [hc, hu] at e1 e2
    exact ⟨e1, e2⟩
end Go.Proofs.YtpcnmgldmnncoaaGreatDoor
