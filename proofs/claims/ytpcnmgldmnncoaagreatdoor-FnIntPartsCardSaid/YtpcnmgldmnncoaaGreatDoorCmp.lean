/- nat.cmp, spec.order: which of two numbers is the less. -/
import Derived.Test.YtpcnmgldmnncoaaGreatDoorRows
import Derived.Test.YtpcnmgldmnncoaaGreatDoorMBase
import Derived.Test.YtpcnmgldmnncoaaGreatDoorMWhole
namespace Go.Proofs.YtpcnmgldmnncoaaGreatDoor
open Go.RowKit Dig
set_option linter.unusedVariables false
set_option linter.unusedSimpArgs false
set_option maxRecDepth 100000

/-- -1, 0, 1 -/
def cmpN (a b : Nat) : Int := if a < b then -1 else if b < a then 1 else 0
def cmpI (a b : Int) : Int := if a < b then -1 else if b < a then 1 else 0
theorem nval_lt_at (B : Nat) (lo lo' hi : List Nat) (x x' : Nat) (hlen : lo.length = lo'.length) (h : ∀ u ∈ lo, u < B) (hx : x < x') : nval B (lo ++ x :: hi) < nval B (lo' ++ x' :: hi) := by
  have h1 := nval_lt B lo h
  simp only [nval_append, nval]
  rw [← hlen]
  generalize B * nval B hi = H
  generalize B ^ lo.length = P at *
  have e : P * (x + H + 1) ≤ P * (x' + H) := Nat.mul_le_mul_left P (by omega)
  rw [Nat.mul_add, Nat.mul_one] at e
  omega
theorem Rep.len_lt {B : Nat} (hB : 0 < B) {xs ys : List Nat} {m n : Nat} (h : Rep B xs m) (k : Rep B ys n) (hl : xs.length < ys.length) : m < n := by
  have h1 := h.val_lt
  rcases Nat.lt_or_ge n (B ^ xs.length) with hlt | hge
  · have := k.length_le hB hlt
    omega
  · omega
theorem split_at (xs : List Nat) (i : Nat) (hi : i < xs.length) : xs = xs.take i ++ xs.getD i 0 :: xs.drop (i + 1) := by
  rw [List.getD_eq_getElem?_getD, List.getElem?_eq_getElem hi]
  simp
theorem Rep.lt_at {B : Nat} {xs ys : List Nat} {m n : Nat} (h : Rep B xs m) (k : Rep B ys n) (i : Nat) (hi : i < xs.length) (hl : xs.length = ys.length) (hd : xs.drop (i + 1) = ys.drop (i + 1)) (hx : xs.getD i 0 < ys.getD i 0) : m < n := by
  rw [← h.val, ← k.val, split_at xs i hi, split_at ys i (by omega), hd]
  exact nval_lt_at B _ _ _ _ _ (by simp; omega) (fun u hu => h.lt u (List.mem_of_mem_take hu)) hx
theorem drop_eq_of {xs ys : List Nat} {i : Nat} (hi : i < xs.length) (hl : xs.length = ys.length) (hd : xs.drop (i + 1) = ys.drop (i + 1)) (hx : xs.getD i 0 = ys.getD i 0) : xs.drop i = ys.drop i := by
  rw [List.drop_eq_getElem_cons hi, List.drop_eq_getElem_cons (show i < ys.length by omega), hd]
  rw [List.getD_eq_getElem?_getD, List.getD_eq_getElem?_getD, List.getElem?_eq_getElem hi, List.getElem?_eq_getElem (show i < ys.length by omega)] at hx
  simp only [Option.getD_some] at hx
  rw [hx]
theorem Bytes.lt_at {ms ns : List Nat} {m n : Nat} (h : Bytes ms m) (k : Bytes ns n) (i : Nat) (hi : i < ms.length) (hl : ms.length = ns.length) (hd : ms.take i = ns.take i) (hx : ms.getD i 0 < ns.getD i 0) : m < n := by
  rw [← Rep.val h, ← Rep.val k, split_at ms i hi, split_at ns i (by omega), hd]
  simp only [List.reverse_append, List.reverse_cons, List.append_assoc, List.cons_append, List.nil_append]
  exact nval_lt_at 256 _ _ _ _ _ (by simp; omega) (fun u hu => h.lt u (List.mem_of_mem_drop (by simpa using hu))) hx
theorem take_succ_eq {xs ys : List Nat} {i : Nat} (hi : i < xs.length) (hl : xs.length = ys.length) (hd : xs.take i = ys.take i) (hx : xs.getD i 0 = ys.getD i 0) : xs.take (i + 1) = ys.take (i + 1) := by
  rw [List.take_add_one, List.take_add_one, hd, List.getElem?_eq_getElem hi, List.getElem?_eq_getElem (show i < ys.length by omega)]
  rw [List.getD_eq_getElem?_getD, List.getD_eq_getElem?_getD, List.getElem?_eq_getElem hi, List.getElem?_eq_getElem (show i < ys.length by omega)] at hx
  simp only [Option.getD_some] at hx
  rw [hx]
theorem cmpN_lt {a b : Nat} (h : a < b) : cmpN a b = -1 := by simp [cmpN, h]
theorem cmpN_gt {a b : Nat} (h : b < a) : cmpN a b = 1 := by simp [cmpN, h, Nat.lt_asymm h]
theorem cmpN_eq (a : Nat) : cmpN a a = 0 := by simp [cmpN]

/-- nothing but questions asked -/
def Qt (w w' : World) : Prop := ∃ n : Nat, w' = w.drewN n
theorem Qt.refl (w : World) : Qt w w := ⟨0, rfl⟩
theorem Qt.drewN {w w' : World} (h : Qt w w') (n : Nat) : Qt w (w'.drewN n) := by
  obtain ⟨m, rfl⟩ := h
  exact ⟨m + n, by simp [World.drewN, Nat.add_assoc]⟩
theorem Qt.cell {w w' : World} (h : Qt w w') (p : Addr) : w'.cell? p = w.cell? p := by
  obtain ⟨m, rfl⟩ := h; rfl
theorem Qt.below {w w' : World} (h : Qt w w') : Below w.heap.size w w' := by
  obtain ⟨m, rfl⟩ := h; exact below_drewN (Below.refl _ _) m
def CmpPost (r : Int) (w : World) (e : Ending) (w' : World) : Prop := e = .returned (.int .i64 r) ∧ Qt w w'

set_option maxHeartbeats 1600000 in
theorem natCmp_any (m n : Nat) (x y : Value) (w : World) (hx : Nt w w.heap.size x m) (hy : Nt w w.heap.size y n) (hm : m < lim) (hn : n < lim) :
    Calls Tryz.prog 51 #[x, y] w (CmpPost (cmpN m n) w) := by
  obtain ⟨xs, rx, hx⟩ := hx
  obtain ⟨ys, ry, hy⟩ := hy
  have lx := rx.words_le hm
  have ly := ry.words_le hn
  obtain ⟨a1, c1, rfl, hc1, hr1⟩ := hx
  obtain ⟨a2, c2, rfl, hc2, hr2⟩ := hy
  simp only [List.length_map, ne_eq, List.map_eq_nil_iff] at hc1 hc2 hr1 hr2 ⊢
  rcases Nat.lt_trichotomy xs.length ys.length with hlt | heq | hgt
  · have e := cmpN_lt (Rep.len_lt (by omega) rx ry hlt)
    rw [e]
    have hne : ¬ ((xs.length : Int) = ys.length) := by omega
    clear hr1 hr2 rx ry e hm hn
    go_enter Tryz.func51, Tryz.ntmps51
    go_wp2_with fail
    go_ret
    exact ⟨rfl, Qt.refl _⟩
  · by_cases h0 : xs = []
    · have h1 : ys = [] := List.eq_nil_of_length_eq_zero (by rw [← heq, h0]; rfl)
      subst h0
      subst h1
      have e1 := (rx.pos_iff (by omega)).1 rfl
      have e2 := (ry.pos_iff (by omega)).1 rfl
      subst e1
      subst e2
      rw [cmpN_eq]
      clear hr1 hr2 rx ry hm hn
      go_enter Tryz.func51, Tryz.ntmps51
      go_wp2_with fail
      go_ret
      exact ⟨rfl, Qt.refl _⟩
    · have hp : 0 < xs.length := List.length_pos_iff.2 h0
      have h1 : ¬ ys = [] := fun h => by rw [h] at heq; simp at heq; exact h0 heq
      obtain ⟨b1, o1, rfl, hb1, r1⟩ := hr1 h0
      obtain ⟨b2, o2, rfl, hb2, r2⟩ := hr2 h1
      obtain ⟨K, hK⟩ : ∃ K, K = xs.length := ⟨_, rfl⟩
      have HK1 : Hid (xs.length = K) := hK.symm
      have HK2 : Hid (ys.length = K) := by show _ = _; omega
      rw [← hK] at hp hc1 lx ⊢
      rw [← heq, ← hK] at hc2 ⊢
      have R1 := Lib.hid r1
      have R2 := Lib.hid r2
      have RX := Lib.hid rx
      have RY := Lib.hid ry
      obtain ⟨R, hR⟩ : ∃ R, R = cmpN m n := ⟨_, rfl⟩
      have HR : Hid (cmpN m n = R) := hR.symm
      rw [← hR]
      clear hr1 hr2 r1 r2 rx ry heq h0 h1 hm hn hK hR ly
      go_enter Tryz.func51, Tryz.ntmps51
      go_wp2_with fail
      go_loopw [7] (fun i wr => ∃ k : Nat, k < K ∧ i = .int .i64 k ∧ Hid (xs.drop (k + 1) = ys.drop (k + 1)) ∧ Hid (Qt w wr)) (fun i _ => (intOf i).toNat)
      case atStart => exact ⟨K - 1, by omega, by go_num, Lib.hid (by rw [show K - 1 + 1 = K by omega, List.drop_of_length_le (by rw [HK1.out]; omega), List.drop_of_length_le (by rw [HK2.out]; omega)]), Qt.refl w⟩
      case round =>
        obtain ⟨k, hk, rfl, hd, hq⟩ := hrel
        have q1 := R1.out k (by have := HK1.out; simp; omega)
        have q2 := R2.out k (by have := HK2.out; simp; omega)
        rw [← hq.out.cell] at q1 q2
        rw [getD_map_wv xs k (by have := HK1.out; omega)] at q1
        rw [getD_map_wv ys k (by have := HK2.out; omega)] at q2
        have hlt : Hid (xs.getD k 0 < ys.getD k 0 → R = -1) := Lib.hid (fun h => by
          rw [← HR.out, cmpN_lt (Rep.lt_at RX.out RY.out k (by have := HK1.out; omega) (by have := HK1.out; have := HK2.out; omega) hd.out h)])
        have hgt : Hid (ys.getD k 0 < xs.getD k 0 → R = 1) := Lib.hid (fun h => by
          rw [← HR.out, cmpN_gt (Rep.lt_at RY.out RX.out k (by have := HK2.out; omega) (by have := HK1.out; have := HK2.out; omega) hd.out.symm h)])
        have hdn : Hid (xs.getD k 0 = ys.getD k 0 → xs.drop k = ys.drop k) := Lib.hid (fun h => drop_eq_of (by have := HK1.out; omega) (by have := HK1.out; have := HK2.out; omega) hd.out h)
        have heq0 : Hid (k = 0 → xs.drop k = ys.drop k → R = 0) := Lib.hid (fun h h2 => by
          subst h
          simp only [List.drop_zero] at h2
          have e1 := RX.out.val
          have e2 := RY.out.val
          rw [h2] at e1
          rw [← HR.out, ← e1, ← e2, cmpN_eq])
        generalize xs.getD k 0 = u at *
        generalize ys.getD k 0 = v at *
        clear hd
        have hbi : (k : Int) < (K : Int) := by omega
        have hbi0 : (0 : Int) ≤ (k : Int) := by omega
        have hbt : ((k : Int)).toNat = k := by omega
        by_cases hk0 : k = 0
        · have hk1 : decide (0 < k) = false := by simp; omega
          have HK0 := Lib.hid hk0
          clear hk0
          rcases Nat.lt_trichotomy u v with h | h | h
          · obtain rfl := hlt.out h
            have h1 : decide ((u : Int) < (v : Int)) = true := by simpa using h
            clear hlt hgt hdn heq0
            go_wp2_with fail
            go_quiet (fail)
            go_wp2_with fail
            go_quiet (fail)
            go_wp2_with fail
            go_ret
            exact ⟨rfl, (hq.out.drewN _).drewN _⟩
          · subst h
            obtain rfl := heq0.out HK0.out (hdn.out rfl)
            clear hlt hgt hdn heq0
            go_wp2_with fail
            go_quiet (fail)
            go_wp2_with fail
            go_quiet (fail)
            go_wp2_with fail
            go_quiet (fail)
            go_wp2_with fail
            go_ret
            exact ⟨rfl, ((hq.out.drewN _).drewN _).drewN _⟩
          · obtain rfl := hgt.out h
            clear hlt hgt hdn heq0
            go_wp2_with fail
            go_quiet (fail)
            go_wp2_with fail
            go_quiet (fail)
            go_wp2_with fail
            go_quiet (fail)
            go_wp2_with fail
            go_ret
            exact ⟨rfl, ((hq.out.drewN _).drewN _).drewN _⟩
        · have hk1 : decide (0 < k) = true := by simp; omega
          have hk2 : (0 : Int) < (k : Int) := by omega
          rcases Nat.lt_trichotomy u v with h | h | h
          · obtain rfl := hlt.out h
            have hne : ((u : Int) == (v : Int)) = false := by simp; omega
            clear hlt hgt hdn heq0
            go_wp2_with fail
            go_quiet (fail)
            go_wp2_with fail
            go_quiet (fail)
            go_wp2_with fail
            go_ret
            exact ⟨rfl, (hq.out.drewN _).drewN _⟩
          · subst h
            have D := Lib.hid (hdn.out rfl)
            clear hlt hgt hdn heq0
            go_wp2_with fail
            go_quiet (fail)
            go_wp2_with fail
            go_roundw
            case rel => exact ⟨k - 1, by omega, by go_num, Lib.hid (by rw [show k - 1 + 1 = k by omega]; exact D.out), hq.out.drewN _⟩
            case measure => simp [intOf]; omega
          · obtain rfl := hgt.out h
            have hne : ((u : Int) == (v : Int)) = false := by simp; omega
            clear hlt hgt hdn heq0
            go_wp2_with fail
            go_quiet (fail)
            go_wp2_with fail
            go_quiet (fail)
            go_wp2_with fail
            go_quiet (fail)
            go_wp2_with fail
            go_ret
            exact ⟨rfl, ((hq.out.drewN _).drewN _).drewN _⟩
  · have e := cmpN_gt (Rep.len_lt (by omega) ry rx hgt)
    rw [e]
    have hne : ¬ ((xs.length : Int) = ys.length) := by omega
    clear hr1 hr2 rx ry e hm hn
    go_enter Tryz.func51, Tryz.ntmps51
    go_wp2_with fail
    go_ret
    exact ⟨rfl, Qt.refl _⟩
end Go.Proofs.YtpcnmgldmnncoaaGreatDoor
