/- spec.order, Sign, Cmp; (*Int).Cmp; (starlark.Int).bigInt, Cmp; impl.IntCmp. -/
import Derived.Test.YtggpaejlmfppoaaGreatCmp
import Derived.Test.YtggpaejlmfppoaaGreatWhole2
namespace Go.Proofs.YtggpaejlmfppoaaGreat
open Go.RowKit Dig
set_option linter.unusedVariables false
set_option linter.unusedSimpArgs false
set_option maxRecDepth 100000

set_option maxHeartbeats 1600000 in
theorem order_any (m n : Nat) (x y : Value) (w : World) (hx : By w w.heap.size x m) (hy : By w w.heap.size y n) (hm : m < lim) (hn : n < lim) :
    Calls Tryz.prog 52 #[x, y] w (CmpPost (cmpN m n) w) := by
  obtain ⟨xs, rx, hx⟩ := hx
  obtain ⟨ys, ry, hy⟩ := hy
  have lx := rx.length_le hm
  have ly := ry.length_le hn
  obtain ⟨a1, c1, rfl, hc1, hr1⟩ := hx
  obtain ⟨a2, c2, rfl, hc2, hr2⟩ := hy
  simp only [List.length_map, ne_eq, List.map_eq_nil_iff] at hc1 hc2 hr1 hr2 ⊢
  rcases Nat.lt_trichotomy xs.length ys.length with hlt | heq | hgt
  · have e := cmpN_lt (Rep.len_lt (by omega) rx ry (by simpa using hlt))
    rw [e]
    have hne : ¬ ((xs.length : Int) = ys.length) := by omega
    clear hr1 hr2 rx ry e hm hn
    go_enter Tryz.func52, Tryz.ntmps52
    go_wp2_with fail
    go_ret
    exact ⟨rfl, Qt.refl _⟩
  · obtain ⟨K, hK⟩ : ∃ K, K = xs.length := ⟨_, rfl⟩
    have HK1 : Hid (xs.length = K) := hK.symm
    have HK2 : Hid (ys.length = K) := by show _ = _; omega
    have R1 : Hid (∀ k, k < K → ∃ b o, a1 = some ⟨b, o, none⟩ ∧ w.cell? ⟨b, o + k, none⟩ = some (.int .u8 ((xs.getD k 0 : Nat) : Int)) ∧ xs.getD k 0 < 256) := Lib.hid (fun k hk => by
      obtain ⟨b1, o1, rfl, _, r1⟩ := hr1 (fun h => by rw [h] at hK; simp only [List.length_nil] at hK; omega)
      have := r1 k (by simp; omega)
      rw [getD_map_bv xs k (by omega)] at this
      exact ⟨b1, o1, rfl, this, rx.lt _ (by rw [List.getD_eq_getElem?_getD, List.getElem?_eq_getElem (by omega)]; simp)⟩)
    have R2 : Hid (∀ k, k < K → ∃ b o, a2 = some ⟨b, o, none⟩ ∧ w.cell? ⟨b, o + k, none⟩ = some (.int .u8 ((ys.getD k 0 : Nat) : Int)) ∧ ys.getD k 0 < 256) := Lib.hid (fun k hk => by
      obtain ⟨b2, o2, rfl, _, r2⟩ := hr2 (fun h => by rw [h] at heq; simp only [List.length_nil] at heq; omega)
      have := r2 k (by simp; omega)
      rw [getD_map_bv ys k (by omega)] at this
      exact ⟨b2, o2, rfl, this, ry.lt _ (by rw [List.getD_eq_getElem?_getD, List.getElem?_eq_getElem (by omega)]; simp)⟩)
    rw [← hK] at hc1 lx ⊢
    rw [← heq, ← hK] at hc2 ⊢
    have RX := Lib.hid rx
    have RY := Lib.hid ry
    obtain ⟨R, hR⟩ : ∃ R, R = cmpN m n := ⟨_, rfl⟩
    have HR : Hid (cmpN m n = R) := hR.symm
    rw [← hR]
    clear hr1 hr2 rx ry heq hm hn hK hR ly
    go_enter Tryz.func52, Tryz.ntmps52
    go_wp2_with fail
    go_loopw [5] (fun i wr => ∃ k : Nat, k ≤ K ∧ i = .int .i64 k ∧ Hid (xs.take k = ys.take k) ∧ Hid (Qt w wr)) (fun i _ => K - (intOf i).toNat)
    case atStart => exact ⟨0, by omega, rfl, Lib.hid (by simp), Qt.refl w⟩
    case round =>
      obtain ⟨k, hk, rfl, hd, hq⟩ := hrel
      by_cases hkk : k < K
      · obtain ⟨b1, o1, rfl, q1, hu⟩ := R1.out k hkk
        obtain ⟨b2, o2, rfl, q2, hv⟩ := R2.out k hkk
        rw [← hq.out.cell] at q1 q2
        have hlt : Hid (xs.getD k 0 < ys.getD k 0 → R = -1) := Lib.hid (fun h => by
          rw [← HR.out, cmpN_lt (Bytes.lt_at RX.out RY.out k (by have := HK1.out; omega) (by have := HK1.out; have := HK2.out; omega) hd.out h)])
        have hgt : Hid (ys.getD k 0 < xs.getD k 0 → R = 1) := Lib.hid (fun h => by
          rw [← HR.out, cmpN_gt (Bytes.lt_at RY.out RX.out k (by have := HK2.out; omega) (by have := HK1.out; have := HK2.out; omega) hd.out.symm h)])
        have hdn : Hid (xs.getD k 0 = ys.getD k 0 → xs.take (k + 1) = ys.take (k + 1)) := Lib.hid (fun h => take_succ_eq (by have := HK1.out; omega) (by have := HK1.out; have := HK2.out; omega) hd.out h)
        generalize xs.getD k 0 = u at *
        generalize ys.getD k 0 = v at *
        clear hd
        have hbi : (k : Int) < (K : Int) := by omega
        have hbi0 : (0 : Int) ≤ (k : Int) := by omega
        have hbt : ((k : Int)).toNat = k := by omega
        rcases Nat.lt_trichotomy u v with h | h | h
        · obtain rfl := hlt.out h
          have hne : ((u : Int) == (v : Int)) = false := by simp; omega
          clear hlt hgt hdn
          go_wp2_with fail
          go_quiet (fail)
          go_wp2_with fail
          go_quiet (fail)
          go_wp2_with fail
          go_ret
          exact ⟨rfl, (hq.out.drewN _).drewN _⟩
        · subst h
          have D := Lib.hid (hdn.out rfl)
          clear hlt hgt hdn
          go_wp2_with fail
          go_quiet (fail)
          go_wp2_with fail
          go_roundw
          case rel => exact ⟨k + 1, by omega, by go_num, D, hq.out.drewN _⟩
          case measure => simp [intOf]; omega
        · obtain rfl := hgt.out h
          have hne : ((u : Int) == (v : Int)) = false := by simp; omega
          clear hlt hgt hdn
          go_wp2_with fail
          go_quiet (fail)
          go_wp2_with fail
          go_quiet (fail)
          go_wp2_with fail
          go_ret
          exact ⟨rfl, (hq.out.drewN _).drewN _⟩
      · obtain rfl : k = K := by omega
        have hR0 : R = 0 := by
          have h := hd.out
          rw [List.take_of_length_le (by have := HK1.out; omega), List.take_of_length_le (by have := HK2.out; omega)] at h
          have e1 := Rep.val RX.out
          have e2 := Rep.val RY.out
          rw [h] at e1
          rw [← HR.out, ← e1, ← e2, cmpN_eq]
        subst hR0
        go_wp2_with fail
        go_ret
        exact ⟨rfl, hq.out⟩
  · have e := cmpN_gt (Rep.len_lt (by omega) ry rx (by simpa using hgt))
    rw [e]
    have hne : ¬ ((xs.length : Int) = ys.length) := by omega
    clear hr1 hr2 rx ry e hm hn
    go_enter Tryz.func52, Tryz.ntmps52
    go_wp2_with fail
    go_ret
    exact ⟨rfl, Qt.refl _⟩

/-- the reference's sign needs no memory -/
theorem specSign_any (i : Int) (a : Option Addr) (k c : Nat) (w : World) (hk : k ≤ 4096) (h : k = 0 ↔ i = 0) :
    Calls Tryz.prog 51 #[.agg #[.bool (decide (i < 0)), .slice a k c]] w fun e w' => e = .returned (.int .i64 (sgn i)) ∧ Below w.heap.size w w' := by
  by_cases h0 : k = 0
  · obtain rfl := h.1 h0
    subst h0
    clear h
    go_enter Tryz.func51, Tryz.ntmps51
    go_wp2
    go_ret
    exact ⟨rfl, by go_grown⟩
  · have h1 : ¬ i = 0 := fun e => h0 (h.2 e)
    have hne : ((k : Int) == 0) = false := by simp; omega
    clear h
    by_cases h2 : i < 0
    · have e : sgn i = -1 := by simp [sgn, h2]
      rw [e, decide_eq_true h2]
      clear e h1 h2
      go_enter Tryz.func51, Tryz.ntmps51
      go_wp2
      go_ret
      exact ⟨rfl, by go_grown⟩
    · have e : sgn i = 1 := by simp [sgn, h2, h1]
      rw [e, decide_eq_false h2]
      clear e h1 h2
      go_enter Tryz.func51, Tryz.ntmps51
      go_wp2
      go_ret
      exact ⟨rfl, by go_grown⟩
end Go.Proofs.YtggpaejlmfppoaaGreat
