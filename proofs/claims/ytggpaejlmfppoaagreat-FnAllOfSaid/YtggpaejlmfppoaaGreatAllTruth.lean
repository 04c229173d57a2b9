/- spec.Truth of a scalar. -/
import Derived.Test.YtggpaejlmfppoaaGreatPopSpec
import Derived.Test.YtggpaejlmfppoaaGreatAllStar
namespace Go.Proofs.YtggpaejlmfppoaaGreat
open Go.RowKit Dig
set_option linter.unusedVariables false
set_option linter.unusedSimpArgs false
set_option maxRecDepth 100000

theorem spFl_any (k u : Int) (n : Bool) (a : Option Addr) (l c : Nat) (s : ByteArray) (w : World) : Calls Tryz.prog 31 #[.agg #[.int .i64 k, .bool n, .slice a l c, .int .u64 u, .string s, .slice none 0 0]] w fun e w' => e = .returned (.float .f64 u.toNat) ∧ Below w.heap.size w w' := by
  have HB0 : Hid (Below w.heap.size w (w.alloc (.cells #[.int .i64 k, .bool n, .slice a l c, .int .u64 u, .string s, .slice none 0 0] 27))) := Lib.hid ((Below.refl _ _).alloc (Nat.le_refl _) _)
  have hf := frombits
  go_enter Tryz.func31, Tryz.ntmps31
  go_wp2_with fail
  go_ret
  exact ⟨rfl, HB0.out⟩
theorem spZero_any (i : Int) (v : Value) (w : World) (hv : Sp w w.heap.size v i) : Calls Tryz.prog 34 #[v] w (BoPost (decide (i = 0)) w) := by
  obtain ⟨mag, rfl, xs, hr, a, c, rfl, _, _⟩ := hv
  have hz := hr.nil_iff
  have HB0 : Hid (Below w.heap.size w (w.alloc (.cells #[.bool (decide (i < 0)), .slice a (xs.map bv).length c] 64))) := Lib.hid ((Below.refl _ _).alloc (Nat.le_refl _) _)
  rw [List.length_map] at HB0 ⊢
  by_cases h0 : i = 0
  · have hx : xs = [] := hz.2 (by omega)
    have H : Hid (decide (i = 0) = true) := Lib.hid (by simpa using h0)
    subst hx
    simp only [List.length_nil] at HB0 ⊢
    clear hz hr
    generalize decide (i < 0) = ng at *
    go_enter Tryz.func34, Tryz.ntmps34
    go_wp2_with fail
    go_ret
    exact ⟨by rw [H.out]; rfl, HB0.out⟩
  · have hx : xs.length ≠ 0 := by intro h; exact h0 (by have := hz.1 (List.eq_nil_of_length_eq_zero h); omega)
    have H : Hid (decide (i = 0) = false) := Lib.hid (by simpa using h0)
    clear hz hr h0
    generalize decide (i < 0) = ng at *
    generalize xs.length = N at *
    go_enter Tryz.func34, Tryz.ntmps34
    go_wp2_with fail
    go_ret
    exact ⟨by rw [H.out] <;> simp [hx], HB0.out⟩
set_option maxHeartbeats 3200000 in
/-- the reference's truth of a scalar -/
theorem spTruth_any (x : Cel) (n : Bool) (a : Option Addr) (l c : Nat) (s : ByteArray) (w : World) (h : VaC w w.heap.size (.agg #[.int .i64 x.kind, .bool n, .slice a l c, .int .u64 x.bits, .string s, .slice none 0 0]) x) (hx : x.ok) :
    Calls Tryz.prog 11 #[.agg #[.int .i64 x.kind, .bool n, .slice a l c, .int .u64 x.bits, .string s, .slice none 0 0]] w (BoPost x.truth w) := by
  have hb0 : Below w.heap.size w (w.alloc (.cells #[.int .i64 x.kind, .bool n, .slice a l c, .int .u64 x.bits, .string s, .slice none 0 0] 27)) := (Below.refl _ _).alloc (Nat.le_refl _) _
  cases x with
  | non =>
    simp [VaC] at h; obtain ⟨_, rfl, ⟨rfl, rfl, rfl⟩, _, rfl⟩ := h
    have HB0 := Lib.hid hb0
    unfold Cel.kind Cel.bits at HB0 ⊢
    clear hb0 hx
    go_enter Tryz.func11, Tryz.ntmps11
    go_wp2_with fail
    go_ret
    exact ⟨rfl, HB0.out⟩
  | boo b =>
    simp [VaC] at h; obtain ⟨_, rfl, ⟨rfl, rfl, rfl⟩, _, rfl⟩ := h
    cases b <;>
    (have HB0 := Lib.hid hb0
     unfold Cel.kind Cel.bits at HB0 ⊢
     simp only [if_true, if_false, Bool.false_eq_true] at HB0 ⊢
     clear hb0 hx
     go_enter Tryz.func11, Tryz.ntmps11
     go_wp2_with fail
     go_ret
     exact ⟨rfl, HB0.out⟩)
  | int i =>
    have CN := Lib.hid (numCel_any (.int i) n a l c s _ ((h.below hb0).more hb0.size) hx)
    have HB0 := Lib.hid hb0
    unfold Cel.kind Cel.bits at HB0 CN ⊢
    clear h hx hb0
    go_enter Tryz.func11, Tryz.ntmps11
    go_wp2_with fail
    refine CN.out.mono ?_
    rintro e w1 ⟨v, rfl, hs, hb1⟩
    have CZ := Lib.hid (spZero_any i v w1 hs)
    obtain ⟨q, p, k, d, rfl⟩ := hs.form
    have HB1 := Lib.hid (HB0.out.trans (hb1.mono HB0.out.size))
    clear hs hb1 CN
    go_wp2_with fail
    refine CZ.out.mono ?_
    rintro e w2 ⟨rfl, hb2⟩
    have HB2 := Lib.hid (HB1.out.trans (hb2.mono HB1.out.size))
    have HT : Hid ((Cel.int i).truth = !decide (i = 0)) := Lib.hid (by simp [Cel.truth])
    generalize decide (i = 0) = z at *
    clear hb2 CZ
    go_wp2_with fail
    go_ret
    exact ⟨by rw [HT.out]; rfl, HB2.out⟩
  | flt u =>
    simp [VaC] at h; obtain ⟨_, rfl, ⟨rfl, rfl, rfl⟩, _, rfl⟩ := h
    have HB0 := Lib.hid hb0
    unfold Cel.kind Cel.bits at HB0 ⊢
    clear hb0 hx
    have CF := Lib.hid (fun W => spFl_any 3 u false none 0 0 ByteArray.empty W)
    have hf := run_neq_zero
    go_enter Tryz.func11, Tryz.ntmps11
    go_wp2_with fail
    refine (CF.out _).mono ?_
    rintro e w1 ⟨rfl, hb1⟩
    have HB1 := Lib.hid (HB0.out.trans (hb1.mono HB0.out.size))
    clear hb1
    go_wp2_with fail
    go_ret
    exact ⟨rfl, HB1.out⟩
  | str t =>
    simp [VaC] at h; obtain ⟨_, rfl, ⟨rfl, rfl, rfl⟩, _, rfl⟩ := h
    have HB0 := Lib.hid hb0
    unfold Cel.kind Cel.bits at HB0 ⊢
    clear hb0 hx
    by_cases h0 : 0 < s.size
    all_goals
      have H : Hid ((Cel.str s).truth = decide (0 < s.size)) := Lib.hid rfl
      go_enter Tryz.func11, Tryz.ntmps11
      go_wp2_with fail
      go_ret
      exact ⟨by rw [H.out] <;> simp [h0], HB0.out⟩
  | byt t =>
    simp [VaC] at h; obtain ⟨_, rfl, ⟨rfl, rfl, rfl⟩, _, rfl⟩ := h
    have HB0 := Lib.hid hb0
    unfold Cel.kind Cel.bits at HB0 ⊢
    clear hb0 hx
    by_cases h0 : 0 < s.size
    all_goals
      have H : Hid ((Cel.byt s).truth = decide (0 < s.size)) := Lib.hid rfl
      go_enter Tryz.func11, Tryz.ntmps11
      go_wp2_with fail
      go_ret
      exact ⟨by rw [H.out] <;> simp [h0], HB0.out⟩
end Go.Proofs.YtggpaejlmfppoaaGreat
