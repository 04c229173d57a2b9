/- spec.cut once more: its row is the caller's own. -/
import Derived.Test.YtbfgjaammmpcdaaGreatDoorSpecOf
namespace Go.Proofs.YtbfgjaammmpcdaaGreatDoor
open Go.RowKit Dig
set_option linter.unusedVariables false
set_option linter.unusedSimpArgs false
set_option maxRecDepth 100000

def CutOwn (m : Nat) (n : Nat) (w : World) (e : Ending) (w' : World) : Prop :=
  ∃ v ms, e = .returned v ∧ Bytes ms m ∧ ms.length ≤ n ∧ w'.ownsRow w.heap.size 5 1 v ms.length (ms.map bv) ∧ Below w.heap.size w w'
set_option maxHeartbeats 400000 in
theorem cut_own (ms : List Nat) (v : Value) (w : World) (hms : ∀ x ∈ ms, x < 256) (hlen : ms.length ≤ 70368744177664) (h : Sl w w.heap.size v (ms.map bv)) :
    Calls Tryz.prog 18 #[v] w (CutOwn (bval ms) ms.length w) := by
  obtain ⟨i0, hi0, hz0, hz1, hz2⟩ := info_parts info8
  obtain ⟨a, c, rfl, hc, hr⟩ := h
  simp only [List.length_map] at hc hr
  have hr' : ms ≠ [] → ∃ b o, a = some ⟨b, o, none⟩ ∧ b < w.heap.size ∧ Rd w b o (ms.map bv) := fun hne => hr (by simpa using hne)
  have HS : Hid (Sl w w.heap.size (.slice a ms.length c) (ms.map bv)) := ⟨a, c, by simp, by simpa using hc, hr⟩
  clear hr
  simp only [List.length_map]
  go_enter Tryz.func18, Tryz.ntmps18
  go_wp2
  go_loop [3] (fun i => ∃ k : Nat, k ≤ ms.length ∧ i = .int .i64 k ∧ Hid (∀ j, j < k → ms.getD j 0 = 0)) (fun i => ms.length - (intOf i).toNat)
  case atStart => exact ⟨0, Nat.zero_le _, rfl, Lib.hid (fun j hj => absurd hj (by omega))⟩
  case round =>
    obtain ⟨k, hk, rfl, hz⟩ := hrel
    by_cases hlt : k < ms.length
    · obtain ⟨b, o, rfl, hb, hrd⟩ := hr' (by intro h0; subst h0; simp at hlt)
      have hcell := hrd k (by simpa using hlt)
      rw [getD_map_bv ms k hlt] at hcell
      have hx : ms.getD k 0 < 256 := hms _ (by rw [List.getD_eq_getElem?_getD, List.getElem?_eq_getElem hlt]; simp)
      have HR := Lib.hid hrd; clear hrd
      clear hr'
      by_cases h0 : ms.getD k 0 = 0
      · have H0 := Lib.hid h0
        rw [h0] at hcell
        clear h0 hx
        go_wp2
        go_round
        case rel => exact ⟨k + 1, by omega, by go_num, Lib.hid (fun j hj => by
          by_cases e : j = k
          · subst e; exact H0.out
          · exact hz.out j (by omega))⟩
        case measure => simp [intOf]; omega
      · have h1 : (((ms.getD k 0 : Nat) : Int) == 0) = false := by simpa using h0
        have H0 := Lib.hid h0; clear h0
        generalize hg : ms.getD k 0 = x at *
        have HG := Lib.hid hg; clear hg
        have hck : ¬ c = k := by omega
        have hcut := HS.out.cut k (by simpa using hk)
        have hcb := cut_bytes ms hms k hk hz.out (.inr (by rw [HG.out]; exact H0.out))
        rw [if_neg hck] at hcut
        have hsl : Sl (w.alloc (.cells #[] 5)) w.heap.size (.slice (some ⟨b, o + k, none⟩) (ms.length - k) (c - k)) ((ms.drop k).map bv) := by
          simpa [add_zero_off] using (hcut.below ((Below.refl _ w).alloc (Nat.le_refl _) (.cells #[] 5)))
        have HC := Lib.hid hsl; clear hcut hsl
        have HB := Lib.hid hcb; clear hcb
        have H1 := Lib.hid (show 0 + ((ms.drop k).map bv).length ≤ maxLen by simp [maxLen]; omega)
        have H2 := Lib.hid (show (0 + ((ms.drop k).map bv).length) * 1 ≤ 140737488355328 by simp; omega)
        have H3 := Lib.hid (show w.heap.size ≤ (w.alloc (.cells #[] 5)).heap.size by simp)
        go_wp2_with (at_builtin; refine wpList_append_sl _ rfl (.tmp 17) (.tmp 20) 22 rfl w.heap.size 5 i0 _ 1 Tryz.underlying22 hi0 hz0 hz1 hz2 rfl _ 0 [] rfl (World.ownsRow_lit w #[] 0 (Nat.le_refl _) (by simp [maxLen]) rfl) w.heap.size _ (((ms.drop k).map bv)) rfl HC.out (oneCell_bv _) H1.out H2.out H3.out ?_; intro v' w1 hown hg; have HO := Lib.hid hown; clear hown; have HG1 := Lib.hid hg; clear hg)
        go_ret
        refine ⟨v', ms.drop k, rfl, HB.out, by simp, by simpa using HO.out, ((Below.refl _ w).alloc (Nat.le_refl _) _).grown HG1.out (by simp) (fun q hq => Nat.le_of_eq (Option.some.inj hq))⟩
    · obtain rfl : k = ms.length := by omega
      have hcb := cut_bytes ms hms ms.length (Nat.le_refl _) hz.out (.inl rfl)
      rw [List.drop_length] at hcb
      have HB := Lib.hid hcb; clear hcb
      have H1 := Lib.hid (show 0 + ([] : List Value).length ≤ maxLen by simp)
      have H2 := Lib.hid (show (0 + ([] : List Value).length) * 1 ≤ 140737488355328 by simp)
      have H3 := Lib.hid (show w.heap.size ≤ (w.alloc (.cells #[] 5)).heap.size by simp)
      have h1n := Lib.hid (show ∀ u ∈ ([] : List Value), u.oneCell' = true by simp)
      clear hr'
      by_cases hck : c = ms.length
      · subst hck
        go_wp2_with (at_builtin; refine wpList_append_sl _ rfl (.tmp 17) (.tmp 20) 22 rfl w.heap.size 5 i0 _ 1 Tryz.underlying22 hi0 hz0 hz1 hz2 rfl _ 0 [] rfl (World.ownsRow_lit w #[] 0 (Nat.le_refl _) (by simp [maxLen]) rfl) w.heap.size _ [] rfl (Sl.empty _ _ _ _) h1n.out H1.out H2.out H3.out ?_; intro v' w1 hown hg; have HO := Lib.hid hown; clear hown; have HG1 := Lib.hid hg; clear hg)
        go_ret
        refine ⟨v', [], rfl, HB.out, by simp, by simpa using HO.out, ((Below.refl _ w).alloc (Nat.le_refl _) _).grown HG1.out (by simp) (fun q hq => Nat.le_of_eq (Option.some.inj hq))⟩
      · go_wp2_with (at_builtin; refine wpList_append_sl _ rfl (.tmp 17) (.tmp 20) 22 rfl w.heap.size 5 i0 _ 1 Tryz.underlying22 hi0 hz0 hz1 hz2 rfl _ 0 [] rfl (World.ownsRow_lit w #[] 0 (Nat.le_refl _) (by simp [maxLen]) rfl) w.heap.size _ [] rfl (Sl.empty _ _ _ _) h1n.out H1.out H2.out H3.out ?_; intro v' w1 hown hg; have HO := Lib.hid hown; clear hown; have HG1 := Lib.hid hg; clear hg)
        go_ret
        refine ⟨v', [], rfl, HB.out, by simp, by simpa using HO.out, ((Below.refl _ w).alloc (Nat.le_refl _) _).grown HG1.out (by simp) (fun q hq => Nat.le_of_eq (Option.some.inj hq))⟩

end Go.Proofs.YtbfgjaammmpcdaaGreatDoor
