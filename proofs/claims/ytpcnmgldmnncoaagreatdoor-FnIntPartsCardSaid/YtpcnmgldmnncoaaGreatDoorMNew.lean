/- big.NewInt, starlark.MakeInt64, (starlark.Int).get: integers made of a number. nat.make, nat.set, nat.norm, (*Int).Set with a receiver that has no words yet. nat.bytes: the bytes of a number, the highest first, laid into a buffer of the call's own. Comparisons of pointers to blocks of the call's own. No function of the program. (*Int).Set with a fresh receiver; (starlark.Int).get, BigInt. (*Int).Sign, (*Int).Bytes, impl.number: an integer of the package as an impl.Val. -/
import Derived.Test.YtpcnmgldmnncoaaGreatDoorRows
import Derived.Test.YtpcnmgldmnncoaaGreatDoorMBase
import Derived.Laws.MakeOwn
import Derived.Laws.CopyOwn
import Derived.LaidEql
import Derived.Deep.RegionWith
namespace Go.Proofs.YtpcnmgldmnncoaaGreatDoor
open Go.RowKit Dig
set_option linter.unusedVariables false
set_option linter.unusedSimpArgs false
set_option maxRecDepth 100000

/-- it returns a pointer to the integer i -/
def BgPost (i : Int) (w : World) (e : Ending) (w' : World) : Prop := ∃ p, e = .returned (.pointer p) ∧ Bg w' w'.heap.size p i ∧ Below w.heap.size w w'

theorem rep_zero : Rep 18446744073709551616 [] 0 := ⟨by simp, rfl, by simp [Nrm]⟩
theorem rep_one (m : Nat) (h : m < 18446744073709551616) (h0 : m ≠ 0) : Rep 18446744073709551616 [m] m := ⟨by simpa using h, by simp [nval], by simpa [Nrm] using h0⟩

theorem Bg.one (w : World) (e : TypeId) (m : Nat) (i : Int) (hi : i.natAbs = m) (h : Rep 18446744073709551616 [m] m) :
    Bg ((w.alloc (.cells #[wv m] e)).alloc (.cells #[.bool (decide (i < 0)), .slice (some ⟨w.heap.size, 0, none⟩) 1 1] 55)) (w.heap.size + 2) (some ⟨w.heap.size + 1, 0, none⟩) i := by
  have k1 : Blk (w.alloc (.cells #[wv m] e)) w.heap.size e [wv m] := Blk.new w e [wv m]
  have k2 := Blk.new (w.alloc (.cells #[wv m] e)) 55 [.bool (decide (i < 0)), .slice (some ⟨w.heap.size, 0, none⟩) 1 1]
  have hsz : (w.alloc (.cells #[wv m] e)).heap.size = w.heap.size + 1 := by simp
  rw [hsz] at k2
  refine ⟨_, _, rfl, by omega, k2, [m], by rw [hi]; exact h, ?_⟩
  have k3 := k1.alloc (.cells #[.bool (decide (i < 0)), .slice (some ⟨w.heap.size, 0, none⟩) 1 1] 55)
  exact Sl.mk (vs := [wv m]) (c := 1) (k3.rd (by simp) (fun i _ => by rw [Nat.zero_add])) (by simp) (by omega)
theorem Bg.none_ (w : World) (i : Int) (hi : i = 0) :
    Bg (w.alloc (.cells #[.bool (decide (i < 0)), .slice none 0 0] 55)) (w.heap.size + 1) (some ⟨w.heap.size, 0, none⟩) i := by
  refine ⟨_, _, rfl, by omega, Blk.new w 55 [.bool (decide (i < 0)), .slice none 0 0], [], ?_, Sl.nil _ _⟩
  subst hi; exact rep_zero

set_option maxHeartbeats 400000 in
theorem newInt_any (n : Int) (w : World) (h1 : -9223372036854775808 ≤ n) (h2 : n ≤ 9223372036854775807) : Calls Tryz.prog 47 #[.int .i64 n] w (BgPost n w) := by
  rcases Int.lt_trichotomy n 0 with hn | hn | hn
  · have e1 : IntKind.u64.wrap (-IntKind.u64.wrap n) = ((n.natAbs : Nat) : Int) := by rw [IntKind.wrap_u64, IntKind.wrap_u64]; omega
    have e2 : (true : Bool) = decide (n < 0) := by simpa using hn
    have FIN := Lib.hid (Bg.one w 79 n.natAbs n rfl (rep_one n.natAbs (by omega) (by omega)))
    have E1 := Lib.hid e1; clear e1
    have E2 := Lib.hid e2; clear e2
    have hn' : (n == 0) = false := by simp; omega
    go_enter Tryz.func47, Tryz.ntmps47
    go_wp2
    go_ret
    refine ⟨_, rfl, ?_, ((Below.refl _ _).alloc (Nat.le_refl _) _).alloc (by simp) _⟩
    have h := FIN.out
    rw [← E2.out] at h
    rw [E1.out]
    simpa [wv] using h
  · subst hn
    have FIN := Lib.hid (Bg.none_ w 0 rfl)
    go_enter Tryz.func47, Tryz.ntmps47
    go_wp2
    go_ret
    exact ⟨_, rfl, by simpa using FIN.out, (Below.refl _ _).alloc (Nat.le_refl _) _⟩
  · obtain ⟨m, rfl⟩ := Int.eq_ofNat_of_zero_le (show 0 ≤ n by omega)
    have FIN := Lib.hid (Bg.one w 79 m m rfl (rep_one m (by omega) (by omega)))
    have hn' : ((m : Int) == 0) = false := by simp; omega
    go_enter Tryz.func47, Tryz.ntmps47
    go_wp2
    go_ret
    refine ⟨_, rfl, ?_, ((Below.refl _ _).alloc (Nat.le_refl _) _).alloc (by simp) _⟩
    simpa [wv] using FIN.out

/-- MakeInt64: it returns the integer of the number -/
def InPost (i : Int) (w : World) (e : Ending) (w' : World) : Prop := ∃ v, e = .returned v ∧ In w' w'.heap.size v i ∧ Below w.heap.size w w'
theorem Bg.far {w : World} {B b : Nat} {p : Option Addr} {i : Int} {L : List Value} {e : TypeId} (h : Bg w B p i) (hk : Blk w b e L) (he : 55 ≠ e) (hd : ∀ u ∈ L, ∀ m, u ≠ wv m) (j : Nat) (y : Value) : Bg (w.setCell ⟨b, j, none⟩ y) B p i := by
  obtain ⟨b', abs, h1, h2, h3, xs, h4, h5⟩ := h
  refine ⟨b', abs, h1, h2, h3.far (p := ⟨b, j, none⟩) ?_ y, xs, h4, h5.far hk (not_wv hd xs) j y⟩
  rintro rfl
  exact he (h3.inj hk).1
theorem In.form {w : World} {B : Nat} {v : Value} {i : Int} (h : In w B v i) : ∃ (s : Int) (p : Option Addr), v = .agg #[.int .i64 s, .pointer p] := by
  obtain ⟨s, p, h, _⟩ := h; exact ⟨s, p, h⟩
/-- a starlark.Int stored into a variable of its own -/
theorem In.store {w w2 : World} {b : Nat} {s : Int} {p : Option Addr} {x y : Value} {i : Int} (h : In w2 w2.heap.size (.agg #[.int .i64 s, .pointer p]) i) (hk : Blk w2 b 44 [x, y]) (hp : ∀ u ∈ [x, y], ∀ m, u ≠ wv m) (hb : Below w.heap.size w w2) (hlt : w.heap.size ≤ b) :
    In ((w2.setCell ⟨b, 0, none⟩ (.int .i64 s)).setCell ⟨b, 1, none⟩ (.pointer p)) ((w2.setCell ⟨b, 0, none⟩ (.int .i64 s)).setCell ⟨b, 1, none⟩ (.pointer p)).heap.size (.agg #[.int .i64 s, .pointer p]) i ∧
    Below w.heap.size w ((w2.setCell ⟨b, 0, none⟩ (.int .i64 s)).setCell ⟨b, 1, none⟩ (.pointer p)) := by
  refine ⟨?_, (hb.setCell (p := ⟨b, 0, none⟩) hlt _).setCell (p := ⟨b, 1, none⟩) hlt _⟩
  obtain ⟨s', p', hv, hr⟩ := h
  simp only [Value.agg.injEq, Array.mk.injEq, List.cons.injEq, Value.int.injEq, true_and, Value.pointer.injEq, and_true] at hv
  obtain ⟨rfl, rfl⟩ := hv
  refine ⟨_, _, rfl, ?_⟩
  rcases hr with hr | ⟨h1, h2, h3⟩
  · exact .inl hr
  · refine .inr ⟨h1, h2, ?_⟩
    have s1 := h3.far hk (by decide) hp 0 (.int .i64 s)
    have s2 := s1.far (hk.set 0 _) (by decide) (by
      intro u hu m
      simp only [List.set_cons_zero, List.mem_cons, List.not_mem_nil, or_false] at hu
      rcases hu with rfl | rfl
      · simp [wv]
      · exact hp _ (by simp) m) 1 (.pointer p)
    simpa [World.setCell] using s2

set_option maxHeartbeats 400000 in
theorem makeInt64_any (n : Int) (w : World) (h1 : -9223372036854775808 ≤ n) (h2 : n ≤ 9223372036854775807) : Calls Tryz.prog 38 #[.int .i64 n] w (InPost n w) := by
  by_cases h34 : -2147483648 ≤ n ∧ n ≤ 2147483647
  · obtain ⟨h3, h4⟩ := h34
    go_enter Tryz.func38, Tryz.ntmps38
    go_wp2
    go_returns
    exact ⟨_, rfl, ⟨n, none, rfl, .inl ⟨rfl, rfl, h3, h4⟩⟩, by go_grown⟩
  · have H34 := Lib.hid h34
    have core : Calls Tryz.prog 47 #[.int .i64 n] (w.alloc (.cells #[.int .i64 0, .pointer none] 44)) fun e w2 => ∃ p, e = .returned (.pointer p) ∧ In w2 w2.heap.size (.agg #[.int .i64 0, .pointer p]) n ∧ Blk w2 w.heap.size 44 [.int .i64 0, .pointer none] ∧ Below w.heap.size w w2 := by
      refine (newInt_any n _ h1 h2).mono ?_
      rintro e w2 ⟨p, rfl, hbg, hb⟩
      exact ⟨p, rfl, ⟨0, p, rfl, .inr ⟨rfl, H34.out, hbg⟩⟩, (Blk.new w 44 [.int .i64 0, .pointer none]).below hb (by simp), ((Below.refl _ w).alloc (Nat.le_refl _) _).trans (hb.mono (by simp))⟩
    have CORE := Lib.hid core; clear core
    have fin : ∀ (w2 : World) (p : Option Addr), In w2 w2.heap.size (.agg #[.int .i64 0, .pointer p]) n → Blk w2 w.heap.size 44 [.int .i64 0, .pointer none] → Below w.heap.size w w2 →
        InPost n w (.returned (.agg #[.int .i64 0, .pointer p])) ((((w2.setCell ⟨w.heap.size, 0, none⟩ (.int .i64 0)).setCell ⟨w.heap.size, 1, none⟩ (.pointer p))).alloc (.cells #[.int .i64 0, .pointer p] 44)) := fun w2 p hi hk hb => by
      have := hi.store (w := w) hk (by simp [wv]) hb (Nat.le_refl _)
      exact ⟨_, rfl, (this.1.below ((Below.refl _ _).alloc (Nat.le_refl _) _)).more (by simp), this.2.alloc this.2.size _⟩
    have FIN := Lib.hid fin; clear fin
    by_cases h3 : -2147483648 ≤ n
    · have h4 : ¬ n ≤ 2147483647 := fun h => h34 ⟨h3, h⟩
      clear h34
      go_enter Tryz.func38, Tryz.ntmps38
      go_wp2_with fail
      refine CORE.out.mono ?_
      rintro e w2 ⟨p, rfl, hi, hk, hb⟩
      have c0 : w2.cell? ⟨w.heap.size, 0, none⟩ = some (.int .i64 0) := hk.cell 0 (by simp)
      have c1 : w2.cell? ⟨w.heap.size, 1, none⟩ = some (.pointer none) := hk.cell 1 (by simp)
      have f0 := hk.free 0
      have f1 := hk.free 1
      have hlt := hk.lt
      have F := Lib.hid (FIN.out w2 p hi hk hb)
      clear hi hk hb
      go_wp2
      refine bodyPost_ret (v := .agg #[.int .i64 0, .pointer p]) (by simp [results, Tryz.results38, go_sem, c0, c1, hlt]) rfl ?_
      exact F.out
    · clear h34
      go_enter Tryz.func38, Tryz.ntmps38
      go_wp2_with fail
      refine CORE.out.mono ?_
      rintro e w2 ⟨p, rfl, hi, hk, hb⟩
      have c0 : w2.cell? ⟨w.heap.size, 0, none⟩ = some (.int .i64 0) := hk.cell 0 (by simp)
      have c1 : w2.cell? ⟨w.heap.size, 1, none⟩ = some (.pointer none) := hk.cell 1 (by simp)
      have f0 := hk.free 0
      have f1 := hk.free 1
      have hlt := hk.lt
      have F := Lib.hid (FIN.out w2 p hi hk hb)
      clear hi hk hb
      go_wp2
      refine bodyPost_ret (v := .agg #[.int .i64 0, .pointer p]) (by simp [results, Tryz.results38, go_sem, c0, c1, hlt]) rfl ?_
      exact F.out
end Go.Proofs.YtpcnmgldmnncoaaGreatDoor

namespace Go.Proofs.YtpcnmgldmnncoaaGreatDoor
open Go.RowKit Dig
set_option linter.unusedVariables false
set_option linter.unusedSimpArgs false
set_option maxRecDepth 100000

/-- so many times a value -/
def zs (z : Value) (c : Nat) : List Value := List.replicate c z
theorem zs_length (z : Value) (c : Nat) : (zs z c).length = c := by simp [zs]
theorem infoW : (Tryz.prog.info? 79).map (fun i => (i.zero, i.size, i.bytes)) = some (some (.int .u64 0), 1, 8) := by kernel_rfl
theorem made_zs (z : Value) (c : Nat) : madeCells #[z] c = (zs z c).toArray := by
  have := toList_madeCells_one z c
  unfold zs
  rw [← this]
theorem run_mk {P : Program} (t e : TypeId) (z : Value) (bytes : Nat) (ht : P.underlying t = some (.slice e)) (hinfo : (P.info? e).map (fun i => (i.zero, i.size, i.bytes)) = some (some z, 1, bytes)) (hz1 : z.cells = #[z])
    (l c : Nat) (hlc : l ≤ c) (hbytes : bytes * c ≤ 281474976710656) (h63 : c ≤ 9223372036854775807) (w : World) :
    (Instr.makeSlice t (.int .i64 (l : Int)) (.int .i64 (c : Int))).run P w = .ok (.slice (some ⟨w.heap.size, 0, none⟩) l c) (w.alloc (.cells (zs z c).toArray e)) := by
  obtain ⟨i, hi, hzz⟩ := Option.map_eq_some_iff.1 hinfo
  simp only [Prod.mk.injEq] at hzz
  obtain ⟨hz, hs, hb⟩ := hzz
  have hb' : (i.bytes : Int) * (c : Int) ≤ 281474976710656 := by
    have h : ((i.bytes * c : Nat) : Int) ≤ 281474976710656 := by rw [hb]; omega
    rwa [Int.natCast_mul] at h
  have hr := run_make (P := P) w t e i z ht hi hz .i64 .i64 l c (by omega) (by omega) hb' (by omega)
  simp only [Int.toNat_natCast, hs, Nat.mul_one, hz1, made_zs] at hr
  exact hr

def MakePost (n : Nat) (w : World) (e : Ending) (w' : World) : Prop :=
  ∃ c, n ≤ c ∧ c ≤ n + 4 ∧ e = .returned (.slice (some ⟨w.heap.size, 0, none⟩) n c) ∧ w' = w.alloc (.cells (zs (.int .u64 0) c).toArray 79)
theorem make_zero (w : World) : Calls Tryz.prog 54 #[.slice none 0 0, .int .i64 0] w fun e w' => e = .returned (.slice none 0 0) ∧ w = w' := by
  go_enter Tryz.func54, Tryz.ntmps54
  go_wp2
  go_ret
  exact ⟨rfl, rfl⟩
theorem make_any (n : Nat) (w : World) (h0 : 0 < n) (hn : n ≤ 1099511627776) : Calls Tryz.prog 54 #[.slice none 0 0, .int .i64 n] w (MakePost n w) := by
  by_cases h1 : n = 1
  · subst h1
    have hmk := fun w => run_mk (P := Tryz.prog) 53 79 (.int .u64 0) 8 Tryz.underlying53 infoW rfl 1 1 (by omega) (by omega) (by omega) w
    simp only [Int.natCast_one] at hmk ⊢
    go_enter Tryz.func54, Tryz.ntmps54
    go_wp2
    go_ret
    exact ⟨1, by omega, by omega, rfl, rfl⟩
  · have hmk := fun w => run_mk (P := Tryz.prog) 53 79 (.int .u64 0) 8 Tryz.underlying53 infoW rfl n (n + 4) (by omega) (by omega) (by omega) w
    have e4 : ((n + 4 : Nat) : Int) = (n : Int) + 4 := by omega
    rw [e4] at hmk
    clear e4
    have hne : ((n : Int) == 1) = false := by simp; omega
    go_enter Tryz.func54, Tryz.ntmps54
    go_wp2
    go_ret
    exact ⟨n + 4, by omega, by omega, rfl, rfl⟩

/-- set: a copy -/
def SetPost (vs : List Value) (w : World) (e : Ending) (w' : World) : Prop := ∃ v, e = .returned v ∧ Sl w' w'.heap.size v vs ∧ Below w.heap.size w w'
set_option maxHeartbeats 400000 in
theorem set_any (xs : List Nat) (x : Value) (w : World) (hx : Sl w w.heap.size x (xs.map wv)) (hl : xs.length ≤ 1099511627776) : Calls Tryz.prog 57 #[.slice none 0 0, x] w (SetPost (xs.map wv) w) := by
  obtain ⟨a, c, rfl, hc, hr⟩ := hx
  simp only [List.length_map, ne_eq, List.map_eq_nil_iff] at hc hr ⊢
  by_cases h0 : xs = []
  · subst h0
    clear hr
    go_enter Tryz.func57, Tryz.ntmps57
    go_wp2_with fail
    refine (make_zero _).mono ?_
    rintro e w' ⟨rfl, rfl⟩
    go_wp2_with (with_reducible refine wpList_copy_nothing rfl (.tmp 9) (.tmp 10) 53 53 rfl 79 Tryz.underlying53 (by kernel_rfl) _ _ _ _ _ _ rfl rfl rfl ?_)
    go_wp2
    go_ret
    exact ⟨_, rfl, Sl.nil _ _, Below.refl _ _⟩
  · obtain ⟨b, o, rfl, hb, hrd⟩ := hr h0
    have hp : 0 < xs.length := List.length_pos_iff.2 h0
    have R := Lib.hid hrd
    clear hr hrd
    go_enter Tryz.func57, Tryz.ntmps57
    go_wp2_with fail
    refine (make_any _ _ hp hl).mono ?_
    rintro e w' ⟨c', hc1, hc2, rfl, rfl⟩
    have hk := Lib.hid (Blk.new w 79 (zs (.int .u64 0) c'))
    have hcp : Hid (∀ j v, (xs.map wv)[j]? = some v → (w.alloc (.cells (zs (.int .u64 0) c').toArray 79)).cell? ((⟨b, o, none⟩ : Addr).add j) = some v) := by
      intro j v hj
      have hlt : j < (xs.map wv).length := by
        rcases Nat.lt_or_ge j (xs.map wv).length with h | h
        · exact h
        · rw [List.getElem?_eq_none h] at hj; cases hj
      have := (R.out.below ((Below.refl _ w).alloc (Nat.le_refl _) (.cells (zs (.int .u64 0) c').toArray 79)) hb) j hlt
      rw [add_zero_off, this, List.getD_eq_getElem?_getD, hj]; rfl
    have hlz := zs_length (.int .u64 0) c'
    obtain ⟨cs, hcs⟩ : ∃ cs, cs = xs.map wv := ⟨_, rfl⟩
    have hcsl : cs.length = xs.length := by rw [hcs]; simp
    have HCS := Lib.hid hcs
    rw [← hcs] at hcp
    have h1c : ∀ u ∈ cs, u.oneCell' = true := by rw [hcs]; exact oneCell_wv xs
    clear hcs
    have P2 := Lib.hid (show cs.length = Nat.min xs.length xs.length by rw [hcsl]; simp)
    have P3 := Lib.hid (show 0 + cs.length ≤ (zs (.int .u64 0) c').length by omega)
    have P4 := Lib.hid h1c
    have P5 := Lib.hid ((Below.refl w.heap.size w).alloc (Nat.le_refl _) (.cells (zs (.int .u64 0) c').toArray 79))
    clear h1c
    go_wp2_with (refine wpList_copy_splice (o := ⟨some 11, _, _, _, _, _⟩) rfl (.tmp 9) (.tmp 10) 53 53 rfl 79 Tryz.underlying53 (by kernel_rfl) _ _ _ _ _ _ rfl rfl w.heap.size 0 (zs (.int .u64 0) c') 79 hk.out cs P2.out (fun _ => ⟨rfl, _, rfl, hcp.out⟩) P3.out P4.out w.heap.size w P5.out (Nat.le_refl _) ?_; intro w4 hg4 hb4; have HB4 := Lib.hid hb4; clear hb4)
    go_ret
    refine ⟨_, rfl, ?_, HB4.out⟩
    have hk4 : Blk w4 w.heap.size 79 (splice (zs (.int .u64 0) c') 0 cs) := hg4.out
    have e1 : splice (zs (.int .u64 0) c') 0 cs = cs ++ (zs (.int .u64 0) c').drop cs.length := by simp [splice]
    rw [e1] at hk4
    have e2 : xs.length = (xs.map wv).length := by simp
    rw [← HCS.out] at e2
    rw [← HCS.out, e2]
    exact Sl.mk (hk4.rd (by simp) (fun i hi => by rw [Nat.zero_add, List.getD_eq_getElem?_getD, List.getD_eq_getElem?_getD, List.getElem?_append_left hi])) (by omega) hk4.lt
end Go.Proofs.YtpcnmgldmnncoaaGreatDoor

namespace Go.Proofs.YtpcnmgldmnncoaaGreatDoor
open Go.RowKit Dig
set_option linter.unusedVariables false
set_option linter.unusedSimpArgs false
set_option maxRecDepth 100000

/-- N bytes, the last c of which are those of m -/
def filled (N m c : Nat) : List Value := (List.replicate (N - c) 0 ++ (dgs 256 c m).reverse).map bv
theorem filled_length (N m c : Nat) (h : c ≤ N) : (filled N m c).length = N := by simp [filled, dgs_length]; omega
theorem filled_zero (N m : Nat) : filled N m 0 = zs (.int .u8 0) N := by simp [filled, dgs, zs, bv]
theorem filled_all (N m : Nat) : filled N m N = ((dgs 256 N m).reverse).map bv := by simp [filled]
theorem filled_set (N m c t : Nat) (h : t + c = N) (h1 : 1 ≤ t) : (filled N m c).set (t - 1) (bv (m / 256 ^ c % 256)) = filled N m (c + 1) := by
  unfold filled
  have e1 : N - c = t := by omega
  have e2 : N - (c + 1) = t - 1 := by omega
  rw [e1, e2, dgs_snoc, List.reverse_append]
  have e3 : List.replicate t 0 = List.replicate (t - 1) 0 ++ [0] := by
    rw [← List.replicate_succ']; congr 1; omega
  rw [e3]
  simp only [List.map_append, List.map_replicate, List.map_cons, List.map_nil, List.reverse_cons, List.reverse_nil, List.nil_append, List.append_assoc, List.cons_append]
  rw [List.set_append_right _ _ (by simp), List.length_replicate, Nat.sub_self]
  rfl

/-- the bytes are laid; so many zeros stand ahead -/
def BytesPost (b N m : Nat) (w : World) (e : Ending) (w' : World) : Prop :=
  ∃ k : Nat, e = .returned (.int .i64 k) ∧ k ≤ N ∧ Blk w' b 5 (((dgs 256 N m).reverse).map bv) ∧ Up (some b) w w' ∧ (∀ j, j < k → ((dgs 256 N m).reverse).getD j 0 = 0) ∧ (k = N ∨ ((dgs 256 N m).reverse).getD k 0 ≠ 0)

set_option maxHeartbeats 1600000 in
theorem bytes_any (xs : List Nat) (z : Value) (b N B : Nat) (w : World) (hxs : ∀ x ∈ xs, x < 18446744073709551616) (hz : Sl w B z (xs.map wv)) (hB : B ≤ w.heap.size) (hBb : B ≤ b) (hN : N = 8 * xs.length) (hl : xs.length ≤ 1048576)
    (hk : Blk w b 5 (zs (.int .u8 0) N)) : Calls Tryz.prog 48 #[z, .slice (some ⟨b, 0, none⟩) N N] w (BytesPost b N (nval 18446744073709551616 xs) w) := by
  obtain ⟨a, c, rfl, hc, hr⟩ := hz
  simp only [List.length_map, ne_eq, List.map_eq_nil_iff] at hc hr ⊢
  have HR := Lib.hid hr
  have HX := Lib.hid hxs
  rw [← filled_zero N (nval 18446744073709551616 xs)] at hk
  have HK := Lib.hid hk
  generalize hm : nval 18446744073709551616 xs = m at *
  have HM := Lib.hid hm
  have hN' : 8 * xs.length = N := hN.symm
  have HN := Lib.hid hN'
  have hNle : N ≤ 8388608 := by omega
  clear hr hxs hk hm hN hN'
  go_enter Tryz.func48, Tryz.ntmps48
  go_wp2
  go_loopw [4, 12] (fun i j wr => ∃ k t : Nat, k ≤ xs.length ∧ t + 8 * k ≤ N ∧ N ≤ t + 8 * k ∧ j = .int .i64 k ∧ i = .int .i64 t ∧ Hid (Blk wr b 5 (filled N m (8 * k))) ∧ Hid (Up (some b) w wr)) (fun _ j _ => xs.length - (intOf j).toNat)
  case atStart => exact ⟨0, N, Nat.zero_le _, by omega, by omega, rfl, rfl, HK, Lib.hid (Up.refl _ _)⟩
  case round =>
    obtain ⟨k, t, hk, ht1, ht2, rfl, rfl, hb, hu⟩ := hrel
    by_cases hlt : k < xs.length
    · have hlen : 8 * xs.length ≤ N := Nat.le_of_eq HN.out
      obtain ⟨bz, oz, rfl, hbz, hrd⟩ := HR.out (by intro h0; subst h0; simp at hlt)
      have hcell := (hrd.up hu.out (by omega) (by simp; omega)) k (by simpa using hlt)
      rw [getD_map_wv xs k hlt] at hcell
      have hx : xs.getD k 0 < 18446744073709551616 := HX.out _ (by rw [List.getD_eq_getElem?_getD, List.getElem?_eq_getElem hlt]; simp)
      have hwb := Lib.hid (fun j (hj : j < 8) => (word_byte xs HX.out k j hlt hj).trans (by rw [HM.out]))
      clear hrd
      generalize xs.getD k 0 = x at *
      have ht8 : 8 ≤ t := by omega
      go_wp2
      obtain ⟨wo, rfl⟩ : ∃ wo : World, wo = wr := ⟨_, rfl⟩
      go_loopw [4, 6, 7] (fun i d j wi => ∃ q s : Nat, q ≤ 8 ∧ s + q ≤ t ∧ t ≤ s + q ∧ j = .int .i64 q ∧ i = .int .i64 s ∧ d = .int .u64 ((x / 256 ^ q : Nat) : Int) ∧ Hid (Blk wi b 5 (filled N m (8 * k + q))) ∧ Hid (Up (some b) w wi)) (fun _ _ j _ => 8 - (intOf j).toNat)
      case atStart => exact ⟨0, t, by omega, by omega, by omega, rfl, rfl, by simp, hb, hu⟩
      case round =>
        obtain ⟨q, s, hq, hs1, hs2, rfl, rfl, rfl, hb2, hu2⟩ := hrel
        by_cases hlt2 : q < 8
        · have h1 : 1 ≤ s := by omega
          have hcell2 := hb2.out.cell (s - 1) (by rw [filled_length _ _ _ (by omega)]; omega)
          have hf2 := hb2.out.free (s - 1)
          have hset := filled_set N m (8 * k + q) s (by omega) h1
          rw [← hwb.out q hlt2] at hset
          have HSET := Lib.hid hset
          have e2 := Lib.hid (show x / 256 ^ q / 256 = x / 256 ^ (q + 1) by rw [Nat.div_div_eq_div_mul, ← Nat.pow_succ])
          have hq2 : x / 256 ^ q < 18446744073709551616 := Nat.lt_of_le_of_lt (Nat.div_le_self _ _) hx
          clear hset
          generalize x / 256 ^ q = y at *
          generalize (filled N m (8 * k + q)).getD (s - 1) undef = cv at *
          go_wp2
          go_roundw
          case rel =>
            refine ⟨q + 1, s - 1, by omega, by omega, by omega, by go_num, by go_num, by rw [← e2.out]; rfl, Lib.hid ?_, Lib.hid (hu2.out.set _ _)⟩
            have := hb2.out.set (s - 1) (bv (y % 256))
            rw [HSET.out] at this
            exact this
          case measure => simp [intOf]; omega
        · obtain rfl : q = 8 := by omega
          go_wp2
          go_roundw
          case rel => exact ⟨k + 1, s, by omega, by omega, by omega, by go_num, rfl, hb2, hu2⟩
          case measure => simp [intOf]; omega
    · obtain rfl : k = xs.length := by omega
      have ht0 : t = 0 := by have := HN.out; omega
      subst ht0
      have e8 := HN.out
      rw [e8, filled_all] at hb
      have hlb : ((dgs 256 N m).reverse).length = N := by simp [dgs_length]
      have hlt256 : ∀ x ∈ (dgs 256 N m).reverse, x < 256 := fun x hx => dgs_lt 256 (by omega) N m x (by simpa using hx)
      have fin : ∀ j : Nat, j ≤ N → (∀ l, l < j → ((dgs 256 N m).reverse).getD l 0 = 0) → (j = N ∨ ((dgs 256 N m).reverse).getD j 0 ≠ 0) → BytesPost b N m w (.returned (.int .i64 j)) wr := fun j h1 h2 h3 => ⟨j, rfl, h1, hb.out, hu.out, h2, h3⟩
      have FIN := Lib.hid fin
      clear fin
      generalize (dgs 256 N m).reverse = bs at *
      go_wp2
      go_loop [4] (fun i => ∃ j : Nat, j ≤ N ∧ i = .int .i64 j ∧ Hid (∀ l, l < j → bs.getD l 0 = 0)) (fun i => N - (intOf i).toNat)
      case atStart => exact ⟨0, Nat.zero_le _, rfl, Lib.hid (fun l hl => absurd hl (by omega))⟩
      case round =>
        obtain ⟨j, hj, rfl, hz⟩ := hrel
        by_cases hlt2 : j < N
        · have hc2 := hb.out.cell j (by simpa [hlb] using hlt2)
          rw [getD_map_bv bs j (by omega)] at hc2
          have hx : bs.getD j 0 < 256 := hlt256 _ (by rw [List.getD_eq_getElem?_getD, List.getElem?_eq_getElem (by omega)]; simp)
          have HLT := Lib.hid hlt256
          clear hlt256
          by_cases h0 : bs.getD j 0 = 0
          · have H0 := Lib.hid h0
            rw [h0] at hc2
            clear h0 hx
            go_wp2
            go_round
            case rel => exact ⟨j + 1, by omega, by go_num, Lib.hid (fun l hl => by
              by_cases e : l = j
              · subst e; exact H0.out
              · exact hz.out l (by omega))⟩
            case measure => simp [intOf]; omega
          · have h1 : (((bs.getD j 0 : Nat) : Int) == 0) = false := by simpa using h0
            have F := Lib.hid (FIN.out j hj hz.out (.inr h0))
            clear h0
            generalize bs.getD j 0 = x at *
            go_wp2
            go_ret
            exact F.out
        · obtain rfl : j = N := by omega
          have F := Lib.hid (FIN.out j hj hz.out (.inl rfl))
          go_wp2
          go_ret
          exact F.out
end Go.Proofs.YtpcnmgldmnncoaaGreatDoor

namespace Go.Proofs.YtpcnmgldmnncoaaGreatDoor
open Go.RowKit Dig
set_option linter.unusedVariables false
set_option linter.unusedSimpArgs false

section
variable {P : Program} {w : World}
theorem run_equalIn_ptr_other (d : Nat) {t te : TypeId} {i : TypeInfo} {a b : Nat} {ea eb : TypeId} {La Lb : List Value} (ht : P.underlying t = some (.pointer te)) (hte : P.info? te = some i) (hsz : i.size ≠ 0)
    (hne : a ≠ b) (ha : Blk w a ea La) (hb : Blk w b eb Lb) : (Op.equalIn (d + 1) t (.pointer (some ⟨a, 0, none⟩)) (.pointer (some ⟨b, 0, none⟩))).run P w = .ok false w := by
  have h := run_sameAddr_other (P := P) w (a := ⟨a, 0, none⟩) (b := ⟨b, 0, none⟩) (by intro h; injection h with h; exact hne h) ha hb
  simp [Op.equalIn, run_underlying ht, typeInfo, hte, sizeOf, hsz, h]
theorem run_equalIn_ptr_same (d : Nat) {t te : TypeId} {i : TypeInfo} {a : Addr} (ht : P.underlying t = some (.pointer te)) (hte : P.info? te = some i) (hsz : i.size ≠ 0) :
    (Op.equalIn (d + 1) t (.pointer (some a)) (.pointer (some a))).run P w = .ok true w := by
  simp [Op.equalIn, run_underlying ht, typeInfo, hte, sizeOf, hsz, run_sameAddr_same]
theorem run_equal_ptr_other {t te : TypeId} {i : TypeInfo} {a b : Nat} {ea eb : TypeId} {La Lb : List Value} (ht : P.underlying t = some (.pointer te)) (hte : P.info? te = some i) (hsz : i.size ≠ 0)
    (hne : a ≠ b) (ha : Blk w a ea La) (hb : Blk w b eb Lb) : (Op.equal t (.pointer (some ⟨a, 0, none⟩)) (.pointer (some ⟨b, 0, none⟩))).run P w = .ok false w :=
  run_equalIn_ptr_other 9999 ht hte hsz hne ha hb
theorem run_equal_ptr_same {t te : TypeId} {i : TypeInfo} {a : Addr} (ht : P.underlying t = some (.pointer te)) (hte : P.info? te = some i) (hsz : i.size ≠ 0) :
    (Op.equal t (.pointer (some a)) (.pointer (some a))).run P w = .ok true w := run_equalIn_ptr_same 9999 ht hte hsz
theorem run_neq_ptr_other {t te : TypeId} {i : TypeInfo} {a b : Nat} {ea eb : TypeId} {La Lb : List Value} (ht : P.underlying t = some (.pointer te)) (hte : P.info? te = some i) (hsz : i.size ≠ 0)
    (hne : a ≠ b) (ha : Blk w a ea La) (hb : Blk w b eb Lb) : (binOp .neq t (.pointer (some ⟨a, 0, none⟩)) (.pointer (some ⟨b, 0, none⟩))).run P w = .ok (.bool true) w := by
  simp only [binOp]
  simp [run_equal_ptr_other ht hte hsz hne ha hb]
theorem run_eql_ptr_other {t te : TypeId} {i : TypeInfo} {a b : Nat} {ea eb : TypeId} {La Lb : List Value} (ht : P.underlying t = some (.pointer te)) (hte : P.info? te = some i) (hsz : i.size ≠ 0)
    (hne : a ≠ b) (ha : Blk w a ea La) (hb : Blk w b eb Lb) : (binOp .eql t (.pointer (some ⟨a, 0, none⟩)) (.pointer (some ⟨b, 0, none⟩))).run P w = .ok (.bool false) w := by
  simp only [binOp]
  simp [run_equal_ptr_other ht hte hsz hne ha hb]
theorem run_neq_ptr_same {t te : TypeId} {i : TypeInfo} {a : Addr} (ht : P.underlying t = some (.pointer te)) (hte : P.info? te = some i) (hsz : i.size ≠ 0) :
    (binOp .neq t (.pointer (some a)) (.pointer (some a))).run P w = .ok (.bool false) w := by
  simp only [binOp]
  simp [run_equal_ptr_same ht hte hsz]
theorem run_eql_ptr_same {t te : TypeId} {i : TypeInfo} {a : Addr} (ht : P.underlying t = some (.pointer te)) (hte : P.info? te = some i) (hsz : i.size ≠ 0) :
    (binOp .eql t (.pointer (some a)) (.pointer (some a))).run P w = .ok (.bool true) w := by
  simp only [binOp]
  simp [run_equal_ptr_same ht hte hsz]
end
end Go.Proofs.YtpcnmgldmnncoaaGreatDoor

namespace Go.Proofs.YtpcnmgldmnncoaaGreatDoor
open Go.RowKit Dig
set_option linter.unusedVariables false
set_option linter.unusedSimpArgs false
set_option maxRecDepth 100000

theorem infoBg : (Tryz.prog.info? 55).map (·.size) = some 2 := by kernel_rfl
theorem infoBg' : ∃ i, Tryz.prog.info? 55 = some i ∧ i.size ≠ 0 := by
  obtain ⟨i, hi, hs⟩ := Option.map_eq_some_iff.1 infoBg
  exact ⟨i, hi, by omega⟩

/-- what is behind a pointer now: an integer, in a block that was there -/
def PutPost (b : Nat) (i : Int) (w : World) (e : Ending) (w' : World) : Prop :=
  e = .returned (.pointer (some ⟨b, 0, none⟩)) ∧ Bg w' w'.heap.size (some ⟨b, 0, none⟩) i ∧ Up (some b) w w'

/-- what stands behind a pointer once words and sign are laid -/
theorem put_fin {w w1 : World} {z : Nat} {i : Int} {xs : List Nat} {v : Value} {L : List Value} (hz : Blk w z 55 L) (hL : L.length = 2) (hd : ∀ u ∈ L, ∀ m, u ≠ wv m) (hr : Rep 18446744073709551616 xs i.natAbs) (hs : Sl w1 w1.heap.size v (xs.map wv)) (hb : Below w.heap.size w w1) :
    PutPost z i w (.returned (.pointer (some ⟨z, 0, none⟩))) ((w1.setCell ⟨z, 1, none⟩ v).setCell ⟨z, 0, none⟩ (.bool (decide (i < 0)))) := by
  have hk := hz.below hb hz.lt
  have k1 := hk.set 1 v
  have k2 := k1.set 0 (.bool (decide (i < 0)))
  match L, hL with
  | [p, q], _ =>
    obtain ⟨a, c, rfl, _, _⟩ := id hs
    have s1 := hs.far hk (not_wv hd xs) 1 (.slice a (xs.map wv).length c)
    have s2 := s1.far k1 (not_wv (by
      intro u hu m
      simp only [List.set_cons_succ, List.set_cons_zero, List.mem_cons, List.not_mem_nil, or_false] at hu
      rcases hu with rfl | rfl
      · exact hd _ (by simp) m
      · simp [wv]) xs) 0 (.bool (decide (i < 0)))
    refine ⟨rfl, ⟨z, _, rfl, ?_, k2, xs, hr, ?_⟩, ((Up.of_below hb).set 1 _).set 0 _⟩
    · have := hk.lt; simpa [World.setCell] using this
    · simpa [World.setCell] using s2

set_option maxHeartbeats 800000 in
theorem Set_any (z : Nat) (p : Option Addr) (i : Int) (w : World) (hz : Blk w z 55 [.bool false, .slice none 0 0]) (hx : Bg w w.heap.size p i) (hne : p ≠ some ⟨z, 0, none⟩) (hl : i.natAbs < lim) :
    Calls Tryz.prog 43 #[.pointer (some ⟨z, 0, none⟩), .pointer p] w (PutPost z i w) := by
  obtain ⟨b, abs, rfl, hb, hk, xs, hr, hs⟩ := hx
  have hne' : ¬ z = b := fun h => hne (by rw [h])
  have hne2 : ¬ b = z := fun h => hne (by rw [h])
  have hxl : xs.length ≤ 512 := hr.words_le hl
  have z0 : w.cell? ⟨z, 0, none⟩ = some (.bool false) := hz.cell 0 (by simp)
  have z1 : w.cell? ⟨z, 1, none⟩ = some (.slice none 0 0) := hz.cell 1 (by simp)
  have x0 : w.cell? ⟨b, 0, none⟩ = some (.bool (decide (i < 0))) := hk.cell 0 (by simp)
  have x1 : w.cell? ⟨b, 1, none⟩ = some abs := hk.cell 1 (by simp)
  have g0 := hz.free 0
  have g1 := hz.free 1
  have hzl := hz.lt
  obtain ⟨ib, hib, hibs⟩ := infoBg'
  have hpe := run_neq_ptr_other (P := Tryz.prog) (w := w) Tryz.underlying40 hib hibs hne' hz hk
  have HZ := Lib.hid hz
  have HK := Lib.hid hk
  have HS := Lib.hid hs
  have HR := Lib.hid hr
  clear hz hk hs hr hne hl
  go_enter Tryz.func43, Tryz.ntmps43
  go_wp2
  have hsd : Hid (Sl w.drew w.drew.heap.size abs (xs.map wv)) := HS.out
  go_region_with (go_at_call 57; refine (set_any xs abs _ hsd.out (by omega)).mono ?_; rintro e w1 ⟨v, rfl, hs1, hb1⟩; obtain ⟨av, cv, rfl, hcv, hrv⟩ := id hs1; clear hrv; have y0 : w1.cell? ⟨z, 0, none⟩ = some (.bool false) := (hb1.cell (p := ⟨z, 0, none⟩) hzl).trans z0; have y1 : w1.cell? ⟨z, 1, none⟩ = some (.slice none 0 0) := (hb1.cell (p := ⟨z, 1, none⟩) hzl).trans z1; have f0 : w1.frozen? ⟨z, 0, none⟩ = false := (hb1.frozen (p := ⟨z, 0, none⟩) hzl).trans g0; have f1 : w1.frozen? ⟨z, 1, none⟩ = false := (hb1.frozen (p := ⟨z, 1, none⟩) hzl).trans g1; have q0 : w1.cell? ⟨b, 0, none⟩ = some (.bool (decide (i < 0))) := (hb1.cell (p := ⟨b, 0, none⟩) hb).trans x0; have HS1 := Lib.hid hs1; have HB1 := Lib.hid hb1; clear hs1 hb1)
  all_goals
    go_wp2
    go_ret
    exact put_fin HZ.out rfl (by simp [wv]) HR.out (by have h := HS1.out; rwa [List.length_map] at h) (((Below.refl _ w).drew).trans HB1.out)

/-- get: the two parts of an integer -/
def GetPost (s : Int) (p : Option Addr) (w : World) (e : Ending) (w' : World) : Prop := e = .returned (.tuple #[.int .i64 s, .pointer p]) ∧ Below w.heap.size w w'
theorem get_any (s : Int) (p : Option Addr) (w : World) : Calls Tryz.prog 29 #[.agg #[.int .i64 s, .pointer p]] w (GetPost s p w) := by
  go_enter Tryz.func29, Tryz.ntmps29
  go_wp2
  go_quiet (fail)
  go_wp2
  go_ret2
  exact ⟨rfl, below_drewN ((Below.refl _ _).alloc (Nat.le_refl _) _) _⟩

/-- a copy of an integer into a block that the caller has just laid -/
theorem Set_new (p : Option Addr) (i : Int) (w : World) (hx : Bg w w.heap.size p i) (hl : i.natAbs < lim) :
    Calls Tryz.prog 43 #[.pointer (some ⟨w.heap.size, 0, none⟩), .pointer p] (w.alloc (.cells #[.bool false, .slice none 0 0] 55)) fun e w' => e = .returned (.pointer (some ⟨w.heap.size, 0, none⟩)) ∧ Bg w' w'.heap.size (some ⟨w.heap.size, 0, none⟩) i ∧ Below w.heap.size w w' := by
  have hne : p ≠ some ⟨w.heap.size, 0, none⟩ := by
    obtain ⟨b, abs, rfl, hb, _⟩ := hx
    intro h; injection h with h; injection h with h; omega
  refine (Set_any w.heap.size p i _ (Blk.new w 55 [.bool false, .slice none 0 0]) ((hx.below ((Below.refl _ _).alloc (Nat.le_refl _) _)).more (by simp)) hne hl).mono ?_
  rintro e w' ⟨rfl, hb, hu⟩
  exact ⟨rfl, hb, ((Below.refl _ w).alloc (Nat.le_refl _) _).trans (hu.below (by simp) (fun k hk => Nat.le_of_eq (Option.some.inj hk)))⟩

set_option maxHeartbeats 800000 in
theorem BigInt_any (v : Value) (i : Int) (w : World) (hv : In w w.heap.size v i) (hl : i.natAbs < lim) : Calls Tryz.prog 32 #[v] w (BgPost i w) := by
  obtain ⟨s, p, rfl, h⟩ := hv
  rcases h with ⟨rfl, rfl, h1, h2⟩ | ⟨rfl, h1, h2⟩
  · go_enter Tryz.func32, Tryz.ntmps32
    go_wp2_with fail
    refine (get_any _ _ _).mono ?_
    rintro e w1 ⟨rfl, h1⟩
    have H1 := Lib.hid h1; clear h1
    go_wp2_with fail
    refine (newInt_any _ _ (by omega) (by omega)).mono ?_
    rintro e w2 ⟨q, rfl, hb, hw⟩
    have HB := Lib.hid hb
    have HW := Lib.hid hw
    clear hb hw
    go_wp2_with fail
    go_ret
    have hb := ((Below.refl w.heap.size w).alloc (Nat.le_refl _) (.cells #[.int .i64 s, .pointer none] 44)).trans (H1.out.mono (by simp))
    exact ⟨q, rfl, HB.out, hb.trans (HW.out.mono hb.size)⟩
  · obtain ⟨b, abs, rfl, hb, hk, hn⟩ := id h2
    have H2 := Lib.hid h2
    clear hb hk hn h2
    go_enter Tryz.func32, Tryz.ntmps32
    go_wp2_with fail
    refine (get_any _ _ _).mono ?_
    rintro e w1 ⟨rfl, h1⟩
    have hb1 : Below w.heap.size w w1 := ((Below.refl w.heap.size w).alloc (Nat.le_refl _) (.cells #[.int .i64 0, .pointer (some ⟨b, 0, none⟩)] 44)).trans (h1.mono (by simp))
    have HB1 := Lib.hid hb1
    clear h1 hb1
    go_wp2_with fail
    refine (Set_new _ i w1 ((H2.out.below HB1.out).more HB1.out.size) hl).mono ?_
    rintro e w2 ⟨rfl, hb2, hw2⟩
    have HB2 := Lib.hid hb2
    have HW2 := Lib.hid hw2
    clear hb2 hw2
    go_wp2_with fail
    go_ret
    exact ⟨_, rfl, HB2.out, HB1.out.trans (HW2.out.mono HB1.out.size)⟩
end Go.Proofs.YtpcnmgldmnncoaaGreatDoor

namespace Go.Proofs.YtpcnmgldmnncoaaGreatDoor
open Go.RowKit Dig
set_option linter.unusedVariables false
set_option linter.unusedSimpArgs false
set_option maxRecDepth 100000

/-- -1, 0, 1 -/
def sgn (i : Int) : Int := if i < 0 then -1 else if i = 0 then 0 else 1
theorem Sign_any (p : Option Addr) (i : Int) (w : World) (h : Bg w w.heap.size p i) (hl : i.natAbs < lim) : Calls Tryz.prog 30 #[.pointer p] w fun e w' => e = .returned (.int .i64 (sgn i)) ∧ w = w' := by
  obtain ⟨b, abs, rfl, hb, hk, xs, hr, a, c, rfl, hc, hs⟩ := h
  have hxl := hr.words_le hl
  have x0 : w.cell? ⟨b, 0, none⟩ = some (.bool (decide (i < 0))) := hk.cell 0 (by simp)
  have x1 : w.cell? ⟨b, 1, none⟩ = some (.slice a (xs.map wv).length c) := hk.cell 1 (by simp)
  have hpos := hr.pos_iff (by omega)
  simp only [List.length_map] at x1
  clear hs hk hc
  by_cases h0 : xs = []
  · have h1 : i = 0 := by have := hpos.1 h0; omega
    subst h0 h1
    clear hpos hr
    go_enter Tryz.func30, Tryz.ntmps30
    go_wp2
    go_ret
    exact ⟨rfl, rfl⟩
  · have hp : 0 < xs.length := List.length_pos_iff.2 h0
    have h1 : ¬ i = 0 := fun h => h0 (hpos.2 (by omega))
    have hne : ((xs.length : Int) == 0) = false := by simp; omega
    clear hpos hr h0
    by_cases h2 : i < 0
    · have e : sgn i = -1 := by simp [sgn, h2]
      rw [e]
      rw [decide_eq_true h2] at x0
      clear e
      go_enter Tryz.func30, Tryz.ntmps30
      go_wp2
      go_ret
      exact ⟨rfl, rfl⟩
    · have e : sgn i = 1 := by simp [sgn, h2, h1]
      rw [e]
      rw [decide_eq_false h2] at x0
      clear e
      go_enter Tryz.func30, Tryz.ntmps30
      go_wp2
      go_ret
      exact ⟨rfl, rfl⟩

theorem info8' : (Tryz.prog.info? 5).map (fun i => (i.zero, i.size, i.bytes)) = some (some (.int .u8 0), 1, 1) := by kernel_rfl
def ByPost (m : Nat) (w : World) (e : Ending) (w' : World) : Prop := ∃ v, e = .returned v ∧ By w' w'.heap.size v m ∧ Below w.heap.size w w'
set_option maxHeartbeats 800000 in
theorem Bytes_any (p : Option Addr) (i : Int) (w : World) (h : Bg w w.heap.size p i) (hl : i.natAbs < lim) : Calls Tryz.prog 33 #[.pointer p] w (ByPost i.natAbs w) := by
  obtain ⟨b, abs, rfl, hb, hk, xs, hr, hs⟩ := h
  have hxl := hr.words_le hl
  obtain ⟨a, c, rfl, hc, hrd⟩ := id hs
  simp only [List.length_map] at hk hs hc
  have x1 : w.cell? ⟨b, 1, none⟩ = some (.slice a xs.length c) := hk.cell 1 (by simp)
  have hmk := fun w => run_mk (P := Tryz.prog) 22 5 (.int .u8 0) 1 Tryz.underlying22 info8' rfl (8 * xs.length) (8 * xs.length) (by omega) (by omega) (by omega) w
  have e4 : ((8 * xs.length : Nat) : Int) = (xs.length : Int) * 8 := by omega
  rw [e4] at hmk
  clear e4 hrd hk
  obtain ⟨N, hN⟩ : ∃ N, N = 8 * xs.length := ⟨_, rfl⟩
  rw [← hN] at hmk
  have core : Calls Tryz.prog 48 #[.slice a xs.length c, .slice (some ⟨w.heap.size, 0, none⟩) N N] (w.alloc (.cells (zs (.int .u8 0) N).toArray 5)) (BytesPost w.heap.size N i.natAbs (w.alloc (.cells (zs (.int .u8 0) N).toArray 5))) := by
    have := bytes_any xs (.slice a xs.length c) w.heap.size N w.heap.size (w.alloc (.cells (zs (.int .u8 0) N).toArray 5)) hr.lt (hs.below ((Below.refl _ _).alloc (Nat.le_refl _) _)) (by simp) (Nat.le_refl _) hN (by omega) (Blk.new _ _ _)
    rwa [hr.val] at this
  have CORE := Lib.hid core
  have fin : ∀ (k : Nat) (w' : World), Blk w' w.heap.size 5 (((dgs 256 N i.natAbs).reverse).map bv) → k ≤ N → (∀ j, j < k → ((dgs 256 N i.natAbs).reverse).getD j 0 = 0) → (k = N ∨ ((dgs 256 N i.natAbs).reverse).getD k 0 ≠ 0) →
      Bytes (((dgs 256 N i.natAbs).reverse).drop k) i.natAbs ∧ Sl w' w'.heap.size (.slice (some ⟨w.heap.size, k, none⟩) (N - k) (N - k)) ((((dgs 256 N i.natAbs).reverse).drop k).map bv) := by
    intro k w' hb hk hz hn
    have hlb : ((dgs 256 N i.natAbs).reverse).length = N := by simp [dgs_length]
    constructor
    · have h1 := cut_bytes ((dgs 256 N i.natAbs).reverse) (fun x hx => dgs_lt 256 (by omega) N i.natAbs x (by simpa using hx)) k (by omega) hz (by rw [hlb]; exact hn)
      have h2 : bval ((dgs 256 N i.natAbs).reverse) = i.natAbs := by
        unfold bval
        rw [List.reverse_reverse, dgs_val_of]
        have := hr.val_lt
        rw [pow_words] at this
        rwa [hN]
      rwa [h2] at h1
    · have h1 := Sl.mk (w := w') (b := w.heap.size) (o := k) (B := w'.heap.size) (vs := (((dgs 256 N i.natAbs).reverse).drop k).map bv) (c := N - k) (hb.rd (by simp [dgs_length]; omega) (fun j hj => by
        simp [List.getD_eq_getElem?_getD])) (by simp [dgs_length]) hb.lt
      simpa [dgs_length] using h1
  have FIN := Lib.hid fin
  have HN : Hid (8 * xs.length = N) := hN.symm
  clear core fin hs hr hN
  go_enter Tryz.func33, Tryz.ntmps33
  go_wp2_with fail
  refine CORE.out.mono ?_
  rintro e w1 ⟨k, rfl, hkN, hb1, hu1, hz1, hn1⟩
  have F := Lib.hid (FIN.out k w1 hb1 hkN hz1 hn1)
  have HB := Lib.hid (show Below w.heap.size w w1 from ((Below.refl _ w).alloc (Nat.le_refl _) _).trans (hu1.below (by simp) (fun q hq => Nat.le_of_eq (Option.some.inj hq))))
  clear hb1 hu1 hz1 hn1
  by_cases hkk : k = N
  · subst hkk
    go_wp2_with fail
    go_ret
    refine ⟨_, rfl, ⟨[], ?_, ?_⟩, HB.out⟩
    · have := F.out.1
      rwa [List.drop_of_length_le (by simp [dgs_length])] at this
    · exact Sl.empty _ _ _ _
  · have hk2 : ¬ N = k := fun h => hkk h.symm
    go_wp2_with fail
    go_ret
    exact ⟨_, rfl, ⟨_, F.out.1, F.out.2⟩, HB.out⟩

def VaPost (i : Int) (w : World) (e : Ending) (w' : World) : Prop := ∃ v, e = .returned v ∧ Va w' w'.heap.size v i ∧ Below w.heap.size w w'
/-- the zero value of an impl.Val -/
def zeroVal : List Value := [.int .i64 0, .bool false, .slice none 0 0, .int .u64 0, .string ByteArray.empty, .slice none 0 0]
/-- an impl.Val of the kind Int stored into a variable of its own -/
theorem Va.store {w w2 : World} {b : Nat} {neg : Bool} {mag : Value} {i : Int} (h : By w2 w2.heap.size mag i.natAbs) (hneg : neg = decide (i < 0)) (hk : Blk w2 b 28 zeroVal) (hb : Below w.heap.size w w2) (hlt : w.heap.size ≤ b) :
    VaPost i w (.returned (.agg #[.int .i64 2, .bool neg, mag, .int .u64 0, .string ByteArray.empty, .slice none 0 0]))
      ((((((w2.setCell ⟨b, 0, none⟩ (.int .i64 2)).setCell ⟨b, 1, none⟩ (.bool neg)).setCell ⟨b, 2, none⟩ mag).setCell ⟨b, 3, none⟩ (.int .u64 0)).setCell ⟨b, 4, none⟩ (.string ByteArray.empty)).setCell ⟨b, 5, none⟩ (.slice none 0 0)) := by
  subst hneg
  obtain ⟨ms, hm, hs⟩ := h
  have hmag : ∀ m, mag ≠ bv m := by
    obtain ⟨a, c, rfl, _⟩ := hs
    intro m; simp [bv]
  refine ⟨_, rfl, ⟨mag, rfl, ms, hm, ?_⟩, ?_⟩
  · have s0 := hs.far hk (not_bv (by simp [zeroVal, bv]) ms) 0 (.int .i64 2)
    have k0 := hk.set 0 (.int .i64 2)
    have s1 := s0.far k0 (not_bv (by simp [zeroVal, bv]) ms) 1 (.bool (decide (i < 0)))
    have k1 := k0.set 1 (.bool (decide (i < 0)))
    have s2 := s1.far k1 (not_bv (by simp [zeroVal, bv]) ms) 2 mag
    have k2 := k1.set 2 mag
    have s3 := s2.far k2 (not_bv (by
      intro u hu m
      simp only [zeroVal, List.set_cons_zero, List.set_cons_succ, List.mem_cons, List.not_mem_nil, or_false] at hu
      rcases hu with rfl | rfl | rfl | rfl | rfl | rfl
      · simp [bv]
      · simp [bv]
      · exact hmag m
      · simp [bv]
      · simp [bv]
      · simp [bv]) ms) 3 (.int .u64 0)
    have k3 := k2.set 3 (.int .u64 0)
    have s4 := s3.far k3 (not_bv (by
      intro u hu m
      simp only [zeroVal, List.set_cons_zero, List.set_cons_succ, List.mem_cons, List.not_mem_nil, or_false] at hu
      rcases hu with rfl | rfl | rfl | rfl | rfl | rfl
      · simp [bv]
      · simp [bv]
      · exact hmag m
      · simp [bv]
      · simp [bv]
      · simp [bv]) ms) 4 (.string ByteArray.empty)
    have k4 := k3.set 4 (.string ByteArray.empty)
    have s5 := s4.far k4 (not_bv (by
      intro u hu m
      simp only [zeroVal, List.set_cons_zero, List.set_cons_succ, List.mem_cons, List.not_mem_nil, or_false] at hu
      rcases hu with rfl | rfl | rfl | rfl | rfl | rfl
      · simp [bv]
      · simp [bv]
      · exact hmag m
      · simp [bv]
      · simp [bv]
      · simp [bv]) ms) 5 (.slice none 0 0)
    simpa [World.setCell] using s5
  · exact (((((hb.setCell (p := ⟨b, 0, none⟩) hlt _).setCell (p := ⟨b, 1, none⟩) hlt _).setCell (p := ⟨b, 2, none⟩) hlt _).setCell (p := ⟨b, 3, none⟩) hlt _).setCell (p := ⟨b, 4, none⟩) hlt _).setCell (p := ⟨b, 5, none⟩) hlt _

theorem sgn_neg (i : Int) : decide (sgn i < 0) = decide (i < 0) := by
  unfold sgn
  by_cases h : i < 0
  · simp [h]
  · by_cases h2 : i = 0 <;> simp [h, h2]

set_option maxHeartbeats 800000 in
theorem number_any (v : Value) (i : Int) (w : World) (hv : In w w.heap.size v i) (hl : i.natAbs < lim) : Calls Tryz.prog 18 #[v] w (VaPost i w) := by
  have core : ∀ W : World, Below w.heap.size w W → Calls Tryz.prog 32 #[v] W (BgPost i W) := fun W hb => BigInt_any v i W ((hv.below hb).more hb.size) hl
  have CORE := Lib.hid core
  have hsg := Lib.hid (sgn_neg i)
  obtain ⟨s, p, rfl⟩ := hv.form
  clear hv core
  go_enter Tryz.func18, Tryz.ntmps18
  go_wp2_with fail
  have hb0 : Below w.heap.size w ((w.alloc (.cells #[.int .i64 s, .pointer p] 44)).alloc (.cells zeroVal.toArray 28)) := ((Below.refl _ _).alloc (Nat.le_refl _) _).alloc (by simp) _
  have HB0 := Lib.hid hb0
  clear hb0
  refine (CORE.out _ HB0.out).mono ?_
  rintro e w1 ⟨q, rfl, hq, hb1⟩
  have hk1 : Blk w1 (w.heap.size + 1) 28 zeroVal := by
    have := (Blk.new (w.alloc (.cells #[.int .i64 s, .pointer p] 44)) 28 zeroVal).below hb1 (by simp)
    simpa using this
  have HB1 := Lib.hid (HB0.out.trans (hb1.mono HB0.out.size))
  have HQ := Lib.hid hq
  have HK1 := Lib.hid hk1
  clear hb1 hq hk1
  go_wp2_with fail
  refine (Sign_any q i w1 HQ.out hl).mono ?_
  rintro e w' ⟨rfl, rfl⟩
  go_wp2_with fail
  refine (Bytes_any q i w1 HQ.out hl).mono ?_
  rintro e w2 ⟨mag, rfl, hy, hb2⟩
  have hk2 := HK1.out.below hb2 HK1.out.lt
  have c0 : w2.cell? ⟨w.heap.size + 1, 0, none⟩ = some (.int .i64 0) := hk2.cell 0 (by simp [zeroVal])
  have c1 : w2.cell? ⟨w.heap.size + 1, 1, none⟩ = some (.bool false) := hk2.cell 1 (by simp [zeroVal])
  have c2 : w2.cell? ⟨w.heap.size + 1, 2, none⟩ = some (.slice none 0 0) := hk2.cell 2 (by simp [zeroVal])
  have c3 : w2.cell? ⟨w.heap.size + 1, 3, none⟩ = some (.int .u64 0) := hk2.cell 3 (by simp [zeroVal])
  have c4 : w2.cell? ⟨w.heap.size + 1, 4, none⟩ = some (.string ByteArray.empty) := hk2.cell 4 (by simp [zeroVal])
  have c5 : w2.cell? ⟨w.heap.size + 1, 5, none⟩ = some (.slice none 0 0) := hk2.cell 5 (by simp [zeroVal])
  have f0 := hk2.free 0
  have f1 := hk2.free 1
  have f2 := hk2.free 2
  have f3 := hk2.free 3
  have f4 := hk2.free 4
  have f5 := hk2.free 5
  obtain ⟨ms, hms, hsl⟩ := id hy
  obtain ⟨a, c, rfl, _⟩ := id hsl
  simp only [List.length_map] at hy
  have FIN := Lib.hid (Va.store (w := w) hy hsg.out hk2 (HB1.out.trans (hb2.mono HB1.out.size)) (by omega))
  clear hk2 hy hsl hb2 hms
  go_wp2_with fail
  refine bodyPost_ret (v := .agg #[.int .i64 2, .bool (decide (sgn i < 0)), .slice a ms.length c, .int .u64 0, .string ByteArray.empty, .slice none 0 0]) (by simp [results, Tryz.results18, go_sem, c0, c1, c2, c3, c4, c5]; rfl) rfl ?_
  exact FIN.out
end Go.Proofs.YtpcnmgldmnncoaaGreatDoor
