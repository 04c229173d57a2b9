/- big.NewInt, starlark.MakeInt64, (starlark.Int).get: integers made of a number. -/
import Derived.Test.YtoggalnjjhcmkaaGreatRows
import Derived.Test.YtoggalnjjhcmkaaGreatApp
namespace Go.Proofs.YtoggalnjjhcmkaaGreat
open Go.RowKit Dig
set_option linter.unusedVariables false
set_option linter.unusedSimpArgs false
set_option maxRecDepth 100000

/-- it returns a pointer to the integer i -/
def BgPost (i : Int) (w : World) (e : Ending) (w' : World) : Prop := ∃ p, e = .returned (.pointer p) ∧ Bg w' w'.heap.size p i ∧ Below w.heap.size w w'

theorem rep_zero : Rep 18446744073709551616 [] 0 := ⟨by simp, rfl, by simp [Nrm]⟩
theorem rep_one (m : Nat) (h : m < 18446744073709551616) (h0 : m ≠ 0) : Rep 18446744073709551616 [m] m := ⟨by simpa using h, by simp [nval], by simpa [Nrm] using h0⟩

theorem Bg.one (w : World) (e : TypeId) (m : Nat) (i : Int) (hi : i.natAbs = m) (h : Rep 18446744073709551616 [m] m) :
    Bg ((w.alloc (.cells #[wv m] e)).alloc (.cells #[.bool (decide (i < 0)), .slice (some ⟨w.heap.size, 0, none⟩) 1 1] 184)) (w.heap.size + 2) (some ⟨w.heap.size + 1, 0, none⟩) i := by
  have k1 : Blk (w.alloc (.cells #[wv m] e)) w.heap.size e [wv m] := Blk.new w e [wv m]
  have k2 := Blk.new (w.alloc (.cells #[wv m] e)) 184 [.bool (decide (i < 0)), .slice (some ⟨w.heap.size, 0, none⟩) 1 1]
  have hsz : (w.alloc (.cells #[wv m] e)).heap.size = w.heap.size + 1 := by simp
  rw [hsz] at k2
  refine ⟨_, _, rfl, by omega, k2, [m], by rw [hi]; exact h, ?_⟩
  have k3 := k1.alloc (.cells #[.bool (decide (i < 0)), .slice (some ⟨w.heap.size, 0, none⟩) 1 1] 184)
  exact Sl.mk (vs := [wv m]) (c := 1) (k3.rd (by simp) (fun i _ => by rw [Nat.zero_add])) (by simp) (by omega)
theorem Bg.none_ (w : World) (i : Int) (hi : i = 0) :
    Bg (w.alloc (.cells #[.bool (decide (i < 0)), .slice none 0 0] 184)) (w.heap.size + 1) (some ⟨w.heap.size, 0, none⟩) i := by
  refine ⟨_, _, rfl, by omega, Blk.new w 184 [.bool (decide (i < 0)), .slice none 0 0], [], ?_, Sl.nil _ _⟩
  subst hi; exact rep_zero

set_option maxHeartbeats 400000 in
theorem newInt_any (n : Int) (w : World) (h1 : -9223372036854775808 ≤ n) (h2 : n ≤ 9223372036854775807) : Calls Tryz.prog 132 #[.int .i64 n] w (BgPost n w) := by
  rcases Int.lt_trichotomy n 0 with hn | hn | hn
  · have e1 : IntKind.u64.wrap (-IntKind.u64.wrap n) = ((n.natAbs : Nat) : Int) := by rw [IntKind.wrap_u64, IntKind.wrap_u64]; omega
    have e2 : (true : Bool) = decide (n < 0) := by simpa using hn
    have FIN := Lib.hid (Bg.one w 233 n.natAbs n rfl (rep_one n.natAbs (by omega) (by omega)))
    have E1 := Lib.hid e1; clear e1
    have E2 := Lib.hid e2; clear e2
    have hn' : (n == 0) = false := by simp; omega
    go_enter Tryz.func132, Tryz.ntmps132
    go_wp2
    go_ret
    refine ⟨_, rfl, ?_, ((Below.refl _ _).alloc (Nat.le_refl _) _).alloc (by simp) _⟩
    have h := FIN.out
    rw [← E2.out] at h
    rw [E1.out]
    simpa [wv] using h
  · subst hn
    have FIN := Lib.hid (Bg.none_ w 0 rfl)
    go_enter Tryz.func132, Tryz.ntmps132
    go_wp2
    go_ret
    exact ⟨_, rfl, by simpa using FIN.out, (Below.refl _ _).alloc (Nat.le_refl _) _⟩
  · obtain ⟨m, rfl⟩ := Int.eq_ofNat_of_zero_le (show 0 ≤ n by omega)
    have FIN := Lib.hid (Bg.one w 233 m m rfl (rep_one m (by omega) (by omega)))
    have hn' : ((m : Int) == 0) = false := by simp; omega
    go_enter Tryz.func132, Tryz.ntmps132
    go_wp2
    go_ret
    refine ⟨_, rfl, ?_, ((Below.refl _ _).alloc (Nat.le_refl _) _).alloc (by simp) _⟩
    simpa [wv] using FIN.out

/-- MakeInt64: it returns the integer of the number -/
def InPost (i : Int) (w : World) (e : Ending) (w' : World) : Prop := ∃ v, e = .returned v ∧ In w' w'.heap.size v i ∧ Below w.heap.size w w'
theorem Bg.far {w : World} {B b : Nat} {p : Option Addr} {i : Int} {L : List Value} {e : TypeId} (h : Bg w B p i) (hk : Blk w b e L) (he : 184 ≠ e) (hd : ∀ u ∈ L, ∀ m, u ≠ wv m) (j : Nat) (y : Value) : Bg (w.setCell ⟨b, j, none⟩ y) B p i := by
  obtain ⟨b', abs, h1, h2, h3, xs, h4, h5⟩ := h
  refine ⟨b', abs, h1, h2, h3.far (p := ⟨b, j, none⟩) ?_ y, xs, h4, h5.far hk (not_wv hd xs) j y⟩
  rintro rfl
  exact he (h3.inj hk).1
theorem In.form {w : World} {B : Nat} {v : Value} {i : Int} (h : In w B v i) : ∃ (s : Int) (p : Option Addr), v = .agg #[.int .i64 s, .pointer p] := by
  obtain ⟨s, p, h, _⟩ := h; exact ⟨s, p, h⟩
/-- a starlark.Int stored into a variable of its own -/
theorem In.store {w w2 : World} {b : Nat} {s : Int} {p : Option Addr} {x y : Value} {i : Int} (h : In w2 w2.heap.size (.agg #[.int .i64 s, .pointer p]) i) (hk : Blk w2 b 120 [x, y]) (hp : ∀ u ∈ [x, y], ∀ m, u ≠ wv m) (hb : Below w.heap.size w w2) (hlt : w.heap.size ≤ b) :
    In ((w2.setCell ⟨b, 0, none⟩ (.int .i64 s)).setCell ⟨b, 1, none⟩ (.pointer p)) ((w2.setCell ⟨b, 0, none⟩ (.int .i64 s)).setCell ⟨b, 1, none⟩ (.pointer p)).heap.size (.agg #[.int .i64 s, .pointer p]) i ∧
    Below w.heap.size w ((w2.setCell ⟨b, 0, none⟩ (.int .i64 s)).setCell ⟨b, 1, none⟩ (.pointer p)) := by
  refine ⟨?_, (hb.setCell (p := ⟨b, 0, none⟩) hlt _).setCell (p := ⟨b, 1, none⟩) hlt _⟩
  obtain ⟨s', p', hv, hr⟩ := h
  simp only [Value.agg.injEq, Array.mk.injEq, List.cons.injEq, Value.int.injEq, true_and, Value.pointer.injEq, and_true] at hv
  obtain ⟨rfl, rfl⟩ := hv
  refine ⟨_, _, rfl, ?_⟩
  rcases hr with hr | ⟨h1, h2, h3⟩
  · exact .inl hr
  · refine .inr ⟨h1, h2, ?_⟩
    have s1 := h3.far hk (by decide) hp 0 (.int .i64 s)
    have s2 := s1.far (hk.set 0 _) (by decide) (by
      intro u hu m
      simp only [List.set_cons_zero, List.mem_cons, List.not_mem_nil, or_false] at hu
      rcases hu with rfl | rfl
      · simp [wv]
      · exact hp _ (by simp) m) 1 (.pointer p)
    simpa [World.setCell] using s2

set_option maxHeartbeats 400000 in
theorem makeInt64_any (n : Int) (w : World) (h1 : -9223372036854775808 ≤ n) (h2 : n ≤ 9223372036854775807) : Calls Tryz.prog 160 #[.int .i64 n] w (InPost n w) := by
  by_cases h34 : -2147483648 ≤ n ∧ n ≤ 2147483647
  · obtain ⟨h3, h4⟩ := h34
    go_enter Tryz.func160, Tryz.ntmps160
    go_wp2
    go_returns
    exact ⟨_, rfl, ⟨n, none, rfl, .inl ⟨rfl, rfl, h3, h4⟩⟩, by go_grown⟩
  · have H34 := Lib.hid h34
    have core : Calls Tryz.prog 132 #[.int .i64 n] (w.alloc (.cells #[.int .i64 0, .pointer none] 120)) fun e w2 => ∃ p, e = .returned (.pointer p) ∧ In w2 w2.heap.size (.agg #[.int .i64 0, .pointer p]) n ∧ Blk w2 w.heap.size 120 [.int .i64 0, .pointer none] ∧ Below w.heap.size w w2 := by
      refine (newInt_any n _ h1 h2).mono ?_
      rintro e w2 ⟨p, rfl, hbg, hb⟩
      exact ⟨p, rfl, ⟨0, p, rfl, .inr ⟨rfl, H34.out, hbg⟩⟩, (Blk.new w 120 [.int .i64 0, .pointer none]).below hb (by simp), ((Below.refl _ w).alloc (Nat.le_refl _) _).trans (hb.mono (by simp))⟩
    have CORE := Lib.hid core; clear core
    have fin : ∀ (w2 : World) (p : Option Addr), In w2 w2.heap.size (.agg #[.int .i64 0, .pointer p]) n → Blk w2 w.heap.size 120 [.int .i64 0, .pointer none] → Below w.heap.size w w2 →
        InPost n w (.returned (.agg #[.int .i64 0, .pointer p])) ((((w2.setCell ⟨w.heap.size, 0, none⟩ (.int .i64 0)).setCell ⟨w.heap.size, 1, none⟩ (.pointer p))).alloc (.cells #[.int .i64 0, .pointer p] 120)) := fun w2 p hi hk hb => by
      have := hi.store (w := w) hk (by simp [wv]) hb (Nat.le_refl _)
      exact ⟨_, rfl, (this.1.below ((Below.refl _ _).alloc (Nat.le_refl _) _)).more (by simp), this.2.alloc this.2.size _⟩
    have FIN := Lib.hid fin; clear fin
    by_cases h3 : -2147483648 ≤ n
    · have h4 : ¬ n ≤ 2147483647 := fun h => h34 ⟨h3, h⟩
      clear h34
      go_enter Tryz.func160, Tryz.ntmps160
      go_wp2_with fail
      refine CORE.out.mono ?_
      rintro e w2 ⟨p, rfl, hi, hk, hb⟩
      have c0 : w2.cell? ⟨w.heap.size, 0, none⟩ = some (.int .i64 0) := hk.cell 0 (by simp)
      have c1 : w2.cell? ⟨w.heap.size, 1, none⟩ = some (.pointer none) := hk.cell 1 (by simp)
      have f0 := hk.free 0
      have f1 := hk.free 1
      have hlt := hk.lt
      have F := Lib.hid (FIN.out w2 p hi hk hb)
      clear hi hk hb
      go_wp2
      refine bodyPost_ret (v := .agg #[.int .i64 0, .pointer p]) (by simp [results, Tryz.results160, go_sem, c0, c1, hlt]) rfl ?_
      exact F.out
    · clear h34
      go_enter Tryz.func160, Tryz.ntmps160
      go_wp2_with fail
      refine CORE.out.mono ?_
      rintro e w2 ⟨p, rfl, hi, hk, hb⟩
      have c0 : w2.cell? ⟨w.heap.size, 0, none⟩ = some (.int .i64 0) := hk.cell 0 (by simp)
      have c1 : w2.cell? ⟨w.heap.size, 1, none⟩ = some (.pointer none) := hk.cell 1 (by simp)
      have f0 := hk.free 0
      have f1 := hk.free 1
      have hlt := hk.lt
      have F := Lib.hid (FIN.out w2 p hi hk hb)
      clear hi hk hb
      go_wp2
      refine bodyPost_ret (v := .agg #[.int .i64 0, .pointer p]) (by simp [results, Tryz.results160, go_sem, c0, c1, hlt]) rfl ?_
      exact F.out
end Go.Proofs.YtoggalnjjhcmkaaGreat
