/- nat.bytes: the bytes of a number, the highest first, laid into a buffer of the call's own. -/
import Derived.Test.YtoggalnjjhcmkaaGreatNat1
namespace Go.Proofs.YtoggalnjjhcmkaaGreat
open Go.RowKit Dig
set_option linter.unusedVariables false
set_option linter.unusedSimpArgs false
set_option maxRecDepth 100000

/-- N bytes, the last c of which are those of m -/
def filled (N m c : Nat) : List Value := (List.replicate (N - c) 0 ++ (dgs 256 c m).reverse).map bv
theorem filled_length (N m c : Nat) (h : c ≤ N) : (filled N m c).length = N := by simp [filled, dgs_length]; omega
theorem filled_zero (N m : Nat) : filled N m 0 = zs (.int .u8 0) N := by simp [filled, dgs, zs, bv]
theorem filled_all (N m : Nat) : filled N m N = ((dgs 256 N m).reverse).map bv := by simp [filled]
theorem filled_set (N m c t : Nat) (h : t + c = N) (h1 : 1 ≤ t) : (filled N m c).set (t - 1) (bv (m / 256 ^ c % 256)) = filled N m (c + 1) := by
  unfold filled
  have e1 : N - c = t := by omega
  have e2 : N - (c + 1) = t - 1 := by omega
  rw [e1, e2, dgs_snoc, List.reverse_append]
  have e3 : List.replicate t 0 = List.replicate (t - 1) 0 ++ [0] := by
    rw [← List.replicate_succ']; congr 1; omega
  rw [e3]
  simp only [List.map_append, List.map_replicate, List.map_cons, List.map_nil, List.reverse_cons, List.reverse_nil, List.nil_append, List.append_assoc, List.cons_append]
  rw [List.set_append_right _ _ (by simp), List.length_replicate, Nat.sub_self]
  rfl

/-- the bytes are laid; so many zeros stand ahead -/
def BytesPost (b N m : Nat) (w : World) (e : Ending) (w' : World) : Prop :=
  ∃ k : Nat, e = .returned (.int .i64 k) ∧ k ≤ N ∧ Blk w' b 5 (((dgs 256 N m).reverse).map bv) ∧ Up (some b) w w' ∧ (∀ j, j < k → ((dgs 256 N m).reverse).getD j 0 = 0) ∧ (k = N ∨ ((dgs 256 N m).reverse).getD k 0 ≠ 0)

set_option maxHeartbeats 1600000 in
theorem bytes_any (xs : List Nat) (z : Value) (b N B : Nat) (w : World) (hxs : ∀ x ∈ xs, x < 18446744073709551616) (hz : Sl w B z (xs.map wv)) (hB : B ≤ w.heap.size) (hBb : B ≤ b) (hN : N = 8 * xs.length) (hl : xs.length ≤ 1048576)
    (hk : Blk w b 5 (zs (.int .u8 0) N)) : Calls Tryz.prog 133 #[z, .slice (some ⟨b, 0, none⟩) N N] w (BytesPost b N (nval 18446744073709551616 xs) w) := by
  obtain ⟨a, c, rfl, hc, hr⟩ := hz
  simp only [List.length_map, ne_eq, List.map_eq_nil_iff] at hc hr ⊢
  have HR := Lib.hid hr
  have HX := Lib.hid hxs
  rw [← filled_zero N (nval 18446744073709551616 xs)] at hk
  have HK := Lib.hid hk
  generalize hm : nval 18446744073709551616 xs = m at *
  have HM := Lib.hid hm
  have hN' : 8 * xs.length = N := hN.symm
  have HN := Lib.hid hN'
  have hNle : N ≤ 8388608 := by omega
  clear hr hxs hk hm hN hN'
  go_enter Tryz.func133, Tryz.ntmps133
  go_wp2
  go_loopw [4, 12] (fun i j wr => ∃ k t : Nat, k ≤ xs.length ∧ t + 8 * k ≤ N ∧ N ≤ t + 8 * k ∧ j = .int .i64 k ∧ i = .int .i64 t ∧ Hid (Blk wr b 5 (filled N m (8 * k))) ∧ Hid (Up (some b) w wr)) (fun _ j _ => xs.length - (intOf j).toNat)
  case atStart => exact ⟨0, N, Nat.zero_le _, by omega, by omega, rfl, rfl, HK, Lib.hid (Up.refl _ _)⟩
  case round =>
    obtain ⟨k, t, hk, ht1, ht2, rfl, rfl, hb, hu⟩ := hrel
    by_cases hlt : k < xs.length
    · have hlen : 8 * xs.length ≤ N := Nat.le_of_eq HN.out
      obtain ⟨bz, oz, rfl, hbz, hrd⟩ := HR.out (by intro h0; subst h0; simp at hlt)
      have hcell := (hrd.up hu.out (by omega) (by simp; omega)) k (by simpa using hlt)
      rw [getD_map_wv xs k hlt] at hcell
      have hx : xs.getD k 0 < 18446744073709551616 := HX.out _ (by rw [List.getD_eq_getElem?_getD, List.getElem?_eq_getElem hlt]; simp)
      have hwb := Lib.hid (fun j (hj : j < 8) => (word_byte xs HX.out k j hlt hj).trans (by rw [HM.out]))
      clear hrd
      generalize xs.getD k 0 = x at *
      have ht8 : 8 ≤ t := by omega
      go_wp2
      obtain ⟨wo, rfl⟩ : ∃ wo : World, wo = wr := ⟨_, rfl⟩
      go_loopw [4, 6, 7] (fun i d j wi => ∃ q s : Nat, q ≤ 8 ∧ s + q ≤ t ∧ t ≤ s + q ∧ j = .int .i64 q ∧ i = .int .i64 s ∧ d = .int .u64 ((x / 256 ^ q : Nat) : Int) ∧ Hid (Blk wi b 5 (filled N m (8 * k + q))) ∧ Hid (Up (some b) w wi)) (fun _ _ j _ => 8 - (intOf j).toNat)
      case atStart => exact ⟨0, t, by omega, by omega, by omega, rfl, rfl, by simp, hb, hu⟩
      case round =>
        obtain ⟨q, s, hq, hs1, hs2, rfl, rfl, rfl, hb2, hu2⟩ := hrel
        by_cases hlt2 : q < 8
        · have h1 : 1 ≤ s := by omega
          have hcell2 := hb2.out.cell (s - 1) (by rw [filled_length _ _ _ (by omega)]; omega)
          have hf2 := hb2.out.free (s - 1)
          have hset := filled_set N m (8 * k + q) s (by omega) h1
          rw [← hwb.out q hlt2] at hset
          have HSET := Lib.hid hset
          have e2 := Lib.hid (show x / 256 ^ q / 256 = x / 256 ^ (q + 1) by rw [Nat.div_div_eq_div_mul, ← Nat.pow_succ])
          have hq2 : x / 256 ^ q < 18446744073709551616 := Nat.lt_of_le_of_lt (Nat.div_le_self _ _) hx
          clear hset
          generalize x / 256 ^ q = y at *
          generalize (filled N m (8 * k + q)).getD (s - 1) undef = cv at *
          go_wp2
          go_roundw
          case rel =>
            refine ⟨q + 1, s - 1, by omega, by omega, by omega, by go_num, by go_num, by rw [← e2.out]; rfl, Lib.hid ?_, Lib.hid (hu2.out.set _ _)⟩
            have := hb2.out.set (s - 1) (bv (y % 256))
            rw [HSET.out] at this
            exact this
          case measure => simp [intOf]; omega
        · obtain rfl : q = 8 := by omega
          go_wp2
          go_roundw
          case rel => exact ⟨k + 1, s, by omega, by omega, by omega, by go_num, rfl, hb2, hu2⟩
          case measure => simp [intOf]; omega
    · obtain rfl : k = xs.length := by omega
      have ht0 : t = 0 := by have := HN.out; omega
      subst ht0
      have e8 := HN.out
      rw [e8, filled_all] at hb
      have hlb : ((dgs 256 N m).reverse).length = N := by simp [dgs_length]
      have hlt256 : ∀ x ∈ (dgs 256 N m).reverse, x < 256 := fun x hx => dgs_lt 256 (by omega) N m x (by simpa using hx)
      have fin : ∀ j : Nat, j ≤ N → (∀ l, l < j → ((dgs 256 N m).reverse).getD l 0 = 0) → (j = N ∨ ((dgs 256 N m).reverse).getD j 0 ≠ 0) → BytesPost b N m w (.returned (.int .i64 j)) wr := fun j h1 h2 h3 => ⟨j, rfl, h1, hb.out, hu.out, h2, h3⟩
      have FIN := Lib.hid fin
      clear fin
      generalize (dgs 256 N m).reverse = bs at *
      go_wp2
      go_loop [4] (fun i => ∃ j : Nat, j ≤ N ∧ i = .int .i64 j ∧ Hid (∀ l, l < j → bs.getD l 0 = 0)) (fun i => N - (intOf i).toNat)
      case atStart => exact ⟨0, Nat.zero_le _, rfl, Lib.hid (fun l hl => absurd hl (by omega))⟩
      case round =>
        obtain ⟨j, hj, rfl, hz⟩ := hrel
        by_cases hlt2 : j < N
        · have hc2 := hb.out.cell j (by simpa [hlb] using hlt2)
          rw [getD_map_bv bs j (by omega)] at hc2
          have hx : bs.getD j 0 < 256 := hlt256 _ (by rw [List.getD_eq_getElem?_getD, List.getElem?_eq_getElem (by omega)]; simp)
          have HLT := Lib.hid hlt256
          clear hlt256
          by_cases h0 : bs.getD j 0 = 0
          · have H0 := Lib.hid h0
            rw [h0] at hc2
            clear h0 hx
            go_wp2
            go_round
            case rel => exact ⟨j + 1, by omega, by go_num, Lib.hid (fun l hl => by
              by_cases e : l = j
              · subst e; exact H0.out
              · exact hz.out l (by omega))⟩
            case measure => simp [intOf]; omega
          · have h1 : (((bs.getD j 0 : Nat) : Int) == 0) = false := by simpa using h0
            have F := Lib.hid (FIN.out j hj hz.out (.inr h0))
            clear h0
            generalize bs.getD j 0 = x at *
            go_wp2
            go_ret
            exact F.out
        · obtain rfl : j = N := by omega
          have F := Lib.hid (FIN.out j hj hz.out (.inl rfl))
          go_wp2
          go_ret
          exact F.out
end Go.Proofs.YtoggalnjjhcmkaaGreat
