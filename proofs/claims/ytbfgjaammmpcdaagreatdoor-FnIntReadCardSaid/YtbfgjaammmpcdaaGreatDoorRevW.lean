/- slices.Reverse of a row of words of one's own. -/
import Derived.Test.YtbfgjaammmpcdaaGreatDoorBase
namespace Go.Proofs.YtbfgjaammmpcdaaGreatDoor
open Go.RowKit Dig
set_option linter.unusedVariables false
set_option linter.unusedSimpArgs false
set_option maxRecDepth 100000

theorem revW_empty (a : Option Addr) (c : Nat) (w : World) : Calls Tryz.prog 134 #[.slice a 0 c] w fun e w' => e = .returned (.tuple #[]) ∧ w = w' := by
  go_enter Tryz.func134, Tryz.ntmps134
  go_wp2_with fail
  go_loopw [2, 3] (fun i j W => i = .int .i64 0 ∧ j = .int .i64 (-1) ∧ W = w) (fun _ _ _ => 0)
  case atStart => exact ⟨rfl, rfl, rfl⟩
  obtain ⟨rfl, rfl, rfl⟩ := hrel
  go_wp2_with fail
  go_end0
  exact ⟨rfl, rfl⟩
set_option maxHeartbeats 800000 in
theorem revW_any (g n c base : Nat) (ys : List Nat) (w : World) (hn : ys.length = n) (hl : n ≤ 1048576) (hb : base ≤ g) (h : w.ownsRow base 102 1 (.slice (some ⟨g, 0, none⟩) n c) n (ys.map wv)) :
    Calls Tryz.prog 134 #[.slice (some ⟨g, 0, none⟩) n c] w fun e w' => e = .returned (.tuple #[]) ∧ w'.ownsRow base 102 1 (.slice (some ⟨g, 0, none⟩) n c) n (ys.reverse.map wv) ∧ Up (some g) w w' := by
  obtain rfl := hn
  have HY := Lib.hid h
  have HG := Lib.hid hb
  have hnc : ys.length ≤ c := by
    rcases h.2 with ⟨h, _⟩ | ⟨_, _, _, h, _, _, h2, _⟩
    · cases h
    · injection h with _ _ h; omega
  clear h hb
  go_enter Tryz.func134, Tryz.ntmps134
  go_wp2_with fail
  go_loopw [2, 3] (fun i j W => ∃ (k : Nat) (cur : List Nat), k ≤ ys.length ∧ i = .int .i64 (k : Int) ∧ j = .int .i64 ((ys.length : Int) - 1 - k) ∧ 2 * k ≤ ys.length + 1 ∧ cur.length = ys.length ∧ Hid (∀ q, q < ys.length → cur.getD q 0 = if q < k ∨ ys.length ≤ q + k then ys.getD (ys.length - 1 - q) 0 else ys.getD q 0) ∧ Hid (W.ownsRow base 102 1 (.slice (some ⟨g, 0, none⟩) ys.length c) ys.length (cur.map wv)) ∧ Hid (Up (some g) w W)) (fun i _ _ => ys.length - (intOf i).toNat)
  case atStart => exact ⟨0, ys, Nat.zero_le _, rfl, by go_num, by omega, rfl, Lib.hid (fun q hq => by rw [if_neg (by omega)]), HY, Lib.hid (Up.refl _ _)⟩
  obtain ⟨k, cur, hk, rfl, rfl, h2k, hcl, hcur, hor, hbr⟩ := hrel
  by_cases hkl : 2 * k + 1 < ys.length
  · have hr0 := own_cell hor.out k (by omega)
    have hr1 := own_cell hor.out (ys.length - 1 - k) (by omega)
    rw [getD_map_wv _ _ (by omega)] at hr0 hr1
    have hf0 := own_free hor.out k
    have hf1 := own_free hor.out (ys.length - 1 - k)
    obtain ⟨j, hj⟩ : ∃ j : Nat, j = ys.length - 1 - k := ⟨_, rfl⟩
    rw [← hj] at hr1 hf1
    have hjI : ((ys.length : Int) - 1 - k) = (j : Int) := by omega
    rw [hjI]
    have hkj : (k : Int) < (j : Int) := by omega
    have hkn : k < ys.length := by omega
    have hjn : j < ys.length := by omega
    have hjk : ¬ j = k := by omega
    have HJ := Lib.hid hj
    clear hj hjI h2k
    generalize hxk : cur.getD k 0 = xk at *
    generalize hxj : cur.getD j 0 = xj at *
    have HSW := Lib.hid (swap_list HJ.out (by omega) hcl hxk hxj hcur.out)
    clear hxk hxj
    have hd0 : wr.drew.cell? ⟨g, k, none⟩ = some (.int .u64 (xk : Int)) := hr0
    have hd1 : wr.drew.cell? ⟨g, j, none⟩ = some (.int .u64 (xj : Int)) := hr1
    have hfd0 : wr.drew.frozen? ⟨g, k, none⟩ = false := hf0
    have hfd1 : wr.drew.frozen? ⟨g, j, none⟩ = false := hf1
    have hy1 : (wr.drew.setCell ⟨g, k, none⟩ (.int .u64 (xj : Int))).cell? ⟨g, j, none⟩ = some (.int .u64 (xj : Int)) := (World.cell?_setCell_other wr.drew ⟨g, k, none⟩ ⟨g, j, none⟩ _ (by intro e; injection e with _ e; omega)).trans hd1
    go_wp2_with fail
    go_region
    go_wp2_with fail
    go_roundw
    case rel =>
      have hJ := HJ.out
      refine ⟨k + 1, (cur.set k xj).set j xk, by omega, by go_num, by congr 1; omega, by omega, by simp [hcl], HSW, Lib.hid ?_, Lib.hid (((hbr.out.set k _).set j _).drewN 1)⟩
      have := own_set (own_set hor.out k hkn (wv xj)) j hjn (wv xk)
      rw [← List.map_set, ← List.map_set] at this
      exact this
    case measure => simp [intOf]; omega
  · have hend : cur = ys.reverse := by
      by_cases h0 : 2 * k ≤ ys.length
      · exact swap_end h0 (by omega) hcl hcur.out
      · apply List.ext_getElem (by rw [hcl, List.length_reverse])
        intro q h4 h5
        have hq : q < ys.length := by omega
        have e := hcur.out q hq
        rw [List.getD_eq_getElem?_getD, List.getElem?_eq_getElem h4, Option.getD_some] at e
        rw [e, List.getElem_reverse, if_pos (by omega), List.getD_eq_getElem?_getD, List.getElem?_eq_getElem (by omega), Option.getD_some]
    subst hend
    have hnlt : ¬ ((k : Int) < (ys.length : Int) - 1 - (k : Int)) := by omega
    clear hcur hcl HY
    go_wp2_with fail
    go_end0
    exact ⟨rfl, by have := hor.out; simpa using this, hbr.out⟩
end Go.Proofs.YtbfgjaammmpcdaaGreatDoor
