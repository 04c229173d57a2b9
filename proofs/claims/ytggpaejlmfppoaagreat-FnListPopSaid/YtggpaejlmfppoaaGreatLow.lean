/- (spec.Int).low: the number of the lowest 64 bits of a magnitude. -/
import Derived.Test.YtggpaejlmfppoaaGreatSpecAdd
import Derived.Lib.BitFns
namespace Go.Proofs.YtggpaejlmfppoaaGreat
open Go.RowKit Dig
set_option linter.unusedVariables false
set_option linter.unusedSimpArgs false
set_option maxRecDepth 100000

theorem low_step (m k : Nat) (hk : k < 8) : m / 256 ^ k % 256 ^ (8 - k) = (m / 256 ^ (k + 1) % 256 ^ (8 - (k + 1))) * 256 + m / 256 ^ k % 256 := by
  have e : 8 - k = (8 - (k + 1)) + 1 := by omega
  rw [e, Nat.pow_succ, Nat.mul_comm (256 ^ (8 - (k + 1))) 256, Nat.mod_mul, Nat.div_div_eq_div_mul, ← Nat.pow_succ, Nat.add_comm, Nat.mul_comm 256]
/-- what low has read behind the places from k on -/
def lowN (m k : Nat) : Nat := m / 256 ^ k % 256 ^ (8 - k)
theorem lowN_lt (m k : Nat) (hk : 1 ≤ k) : lowN m k < 72057594037927936 := by
  have h1 : lowN m k < 256 ^ (8 - k) := Nat.mod_lt _ (Nat.pow_pos (by omega))
  have h2 : 256 ^ (8 - k) ≤ 256 ^ 7 := Nat.pow_le_pow_right (by omega) (by omega)
  have h3 : (256 : Nat) ^ 7 = 72057594037927936 := by decide
  omega
theorem lowN_or (m k : Nat) (hk : k < 8) : bits BinOp.or IntKind.u64 ((lowN m (k + 1) * 256 : Nat) : Int) ((m / 256 ^ k % 256 : Nat) : Int) = ((lowN m k : Nat) : Int) := by
  have h1 := lowN_lt m (k + 1) (by omega)
  have h2 : m / 256 ^ k % 256 < 256 := Nat.mod_lt _ (by omega)
  rw [bits_or_u64_nat _ _ (by omega) (by omega)]
  congr 1
  have h3 := Nat.shiftLeft_add_eq_or_of_lt (i := 8) (b := m / 256 ^ k % 256) h2 (lowN m (k + 1))
  rw [Nat.shiftLeft_eq] at h3
  have h4 := low_step m k hk
  unfold lowN at h3 ⊢
  rw [show (2 : Nat) ^ 8 = 256 from rfl] at h3
  rw [← h3, h4]
theorem lowN_zero (m : Nat) : lowN m 0 = m % 18446744073709551616 := by
  unfold lowN
  rw [Nat.pow_zero, Nat.div_one]
theorem lowN_eight (m : Nat) : lowN m 8 = 0 := by
  unfold lowN
  rw [Nat.sub_self, Nat.pow_zero, Nat.mod_one]

set_option maxHeartbeats 800000 in
theorem low_any (m : Nat) (n : Bool) (v : Value) (w : World) (h : By w w.heap.size v m) (hm : m < lim) :
    Calls Tryz.prog 73 #[.agg #[.bool n, v]] w fun e w' => e = .returned (.int .u64 ((m % 18446744073709551616 : Nat) : Int)) ∧ Below w.heap.size w w' := by
  obtain ⟨a, k, c, rfl⟩ : ∃ a k c, v = .slice a k c := by obtain ⟨ms, _, a, c, hv, _⟩ := h; exact ⟨_, _, _, hv⟩
  obtain ⟨W0, hW0⟩ : ∃ W0, W0 = w.alloc (.cells #[.bool n, .slice a k c] 64) := ⟨_, rfl⟩
  have hb0 : Below w.heap.size w W0 := by rw [hW0]; exact (Below.refl _ _).alloc (Nat.le_refl _) _
  have hsz : W0.heap.size = w.heap.size + 1 := by rw [hW0]; simp
  have hX : Blk W0 w.heap.size 64 [.bool n, .slice a k c] := by rw [hW0]; exact Blk.new w _ [.bool n, .slice a k c]
  have DG : Hid (∀ (i : Nat) (W : World), i < 8 → Qt W0 W → Calls Tryz.prog 85 #[.slice a k c, .int .i64 (i : Int)] W fun e w' => e = .returned (.int .i64 ((m / 256 ^ i % 256 : Nat) : Int)) ∧ W = w') := Lib.hid (fun i W hi hq => digit_any m _ i W.heap.size W ((h.below (hb0.trans (hq.below.mono (by omega)))).more (by have := hq.below.size; omega)) hm (by omega))
  have KEEP : Hid (∀ W, Qt W0 W → W.cell? ⟨w.heap.size, 0, none⟩ = some (.bool n) ∧ W.cell? ⟨w.heap.size, 1, none⟩ = some (.slice a k c)) := Lib.hid (fun W hq => by
    rw [hq.cell, hq.cell]; exact ⟨hX.cell 0 (by simp), hX.cell 1 (by simp)⟩)
  have FIN : Hid (∀ W, Qt W0 W → Below w.heap.size w W) := Lib.hid (fun W hq => hb0.trans (hq.below.mono (by omega)))
  have Q0 : Hid (Qt W0 W0) := Qt.refl _
  have Z8 := Lib.hid (lowN_eight m)
  have Z0 := Lib.hid (lowN_zero m)
  clear hX hb0 hsz h hm
  subst hW0
  go_enter Tryz.func73, Tryz.ntmps73
  go_wp2_with fail
  go_loopw [3, 4] (fun u i wr => ∃ j : Nat, j ≤ 8 ∧ i = .int .i64 ((j : Int) - 1) ∧ u = .int .u64 ((lowN m j : Nat) : Int) ∧ Hid (Qt (w.alloc (.cells #[.bool n, .slice a k c] 64)) wr)) (fun _ i _ => (intOf i + 1).toNat)
  case atStart => exact ⟨8, Nat.le_refl _, rfl, by rw [Z8.out]; rfl, Q0⟩
  case round =>
    obtain ⟨j, hj, rfl, rfl, hq⟩ := hrel
    obtain ⟨c0, c1⟩ := KEEP.out _ hq.out
    by_cases h0 : j = 0
    · subst h0
      have Z := Lib.hid Z0.out
      go_wp2_with fail
      go_ret
      exact ⟨by rw [Z.out]; rfl, FIN.out _ hq.out⟩
    · obtain ⟨i, rfl⟩ : ∃ i, j = i + 1 := ⟨j - 1, by omega⟩
      have e : (((i + 1 : Nat) : Int)) - 1 = (i : Int) := by omega
      rw [e]
      have hi : i < 8 := by omega
      have HO := Lib.hid (lowN_or m i hi)
      have hlt := lowN_lt m (i + 1) (by omega)
      have C := Lib.hid (DG.out i wr hi hq.out)
      have hd : m / 256 ^ i % 256 < 256 := Nat.mod_lt _ (by omega)
      generalize lowN m (i + 1) = U at *
      generalize m / 256 ^ i % 256 = d at *
      clear h0 e
      go_wp2_with (go_at_call 85; refine C.out.mono ?_; rintro e w' ⟨rfl, rfl⟩)
      refine ⟨⟨i, by omega, rfl, ?_, hq⟩, by simp [intOf]⟩
      rw [← HO.out]
      simp
end Go.Proofs.YtggpaejlmfppoaaGreat
