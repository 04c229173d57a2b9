/- spec.Base: a number's digits, written. -/
import Derived.Test.YtbfgjaammmpcdaaGreatDoorCutOwn
import Derived.Test.YtbfgjaammmpcdaaGreatDoorBsMath
import Derived.Maps.AppendAt
import Derived.Laws.BytesArg
namespace Go.Proofs.YtbfgjaammmpcdaaGreatDoor
open Go.RowKit Dig
set_option linter.unusedVariables false
set_option linter.unusedSimpArgs false
set_option maxRecDepth 100000

set_option maxHeartbeats 400000 in
theorem base_zero (i : Int) (v : Value) (w : World) (hv : Sp w w.heap.size v i) (h0 : i ≠ 0) : Calls Tryz.prog 11 #[v] w fun e w' => e = .returned (.bool false) ∧ Below w.heap.size w w' := by
  obtain ⟨mag, rfl, xs, hr, a, c, rfl, _, _⟩ := hv
  have hz := hr.nil_iff
  have HB0 : Hid (Below w.heap.size w (w.alloc (.cells #[.bool (decide (i < 0)), .slice a (xs.map bv).length c] 24))) := Lib.hid ((Below.refl _ _).alloc (Nat.le_refl _) _)
  rw [List.length_map] at HB0 ⊢
  have hx : xs.length ≠ 0 := by intro h; exact h0 (by have := hz.1 (List.eq_nil_of_length_eq_zero h); omega)
  clear hz hr h0
  generalize decide (i < 0) = ng at *
  generalize xs.length = N at *
  go_enter Tryz.func11, Tryz.ntmps11
  go_wp2_with fail
  go_ret
  exact ⟨by simp [hx], HB0.out⟩

theorem swap_list {ys cur : List Nat} {k j xk xj : Nat} (hj : j = ys.length - 1 - k) (hkj : k < j) (hcl : cur.length = ys.length) (hk : cur.getD k 0 = xk) (hx : cur.getD j 0 = xj) (h : ∀ q, q < ys.length → cur.getD q 0 = if q < k ∨ ys.length ≤ q + k then ys.getD (ys.length - 1 - q) 0 else ys.getD q 0) :
    ∀ q, q < ys.length → ((cur.set k xj).set j xk).getD q 0 = if q < k + 1 ∨ ys.length ≤ q + (k + 1) then ys.getD (ys.length - 1 - q) 0 else ys.getD q 0 := by
  intro q hq
  have hjn : j < ys.length := by omega
  have h1 := h k (by omega)
  rw [if_neg (by omega), hk] at h1
  have h2 := h j hjn
  rw [if_neg (by omega), hx] at h2
  rw [List.getD_eq_getElem?_getD, List.getElem?_set]
  by_cases e1 : j = q
  · subst e1
    rw [if_pos rfl, if_pos (by rw [List.length_set]; omega), if_pos (by omega), h1]
    simp only [Option.getD_some]
    congr 1
    omega
  · rw [if_neg e1, List.getElem?_set]
    by_cases e2 : k = q
    · subst e2
      rw [if_pos rfl, if_pos (by omega), if_pos (by omega), h2, hj]
      rfl
    · rw [if_neg e2, ← List.getD_eq_getElem?_getD, h q hq]
      by_cases e3 : q < k ∨ ys.length ≤ q + k
      · rw [if_pos e3, if_pos (by omega)]
      · rw [if_neg e3, if_neg (by omega)]
theorem swap_end {ys cur : List Nat} {k : Nat} (h2 : 2 * k ≤ ys.length) (h3 : ys.length ≤ 2 * k + 1) (hcl : cur.length = ys.length) (h : ∀ q, q < ys.length → cur.getD q 0 = if q < k ∨ ys.length ≤ q + k then ys.getD (ys.length - 1 - q) 0 else ys.getD q 0) : cur = ys.reverse := by
  apply List.ext_getElem (by rw [hcl, List.length_reverse])
  intro q h4 h5
  have hq : q < ys.length := by omega
  have e := h q hq
  rw [List.getD_eq_getElem?_getD, List.getElem?_eq_getElem h4, Option.getD_some] at e
  rw [e, List.getElem_reverse]
  by_cases e3 : q < k ∨ ys.length ≤ q + k
  · rw [if_pos e3, List.getD_eq_getElem?_getD, List.getElem?_eq_getElem (by omega), Option.getD_some]
  · rw [if_neg e3, List.getD_eq_getElem?_getD, List.getElem?_eq_getElem hq, Option.getD_some]
    congr 1
    omega
theorem conv_row {w : World} {base g n c : Nat} {ys : List Nat} (h : w.ownsRow base 5 1 (.slice (some ⟨g, 0, none⟩) n c) n (ys.map bv)) :
    (convert 22 9 (.slice (some ⟨g, 0, none⟩) n c)).run Tryz.prog w = .ok (.string (strOfNums (ys.map fun (y : Nat) => (y : Int)))) w := by
  have hl : ys.length = n := by have := h.1; simpa using this
  exact run_convert_bytes_arg (P := Tryz.prog) w 22 5 Tryz.underlying22 Tryz.underlying5 g 0 n c _ (by simpa using hl) (by
    intro i hi
    rw [Nat.zero_add, own_cell h i hi, getD_map_bv _ _ (by omega)]
    simp [List.getD_eq_getElem?_getD, List.getElem?_eq_getElem (show i < ys.length by omega)]) 9 Tryz.underlying9
theorem str_row {ys : List Nat} (h : ∀ y ∈ ys, y < 256) : (strOfNums (ys.map fun (y : Nat) => (y : Int))).data.toList.map UInt8.toNat = ys := by
  rw [strOfNums_data, List.map_map, List.map_map]
  conv => rhs; rw [← List.map_id ys]
  apply List.map_congr_left
  intro y hy
  have := h y hy
  simp [Nat.mod_eq_of_lt this]
def SpB (w : World) (m : Nat) (mag : Value) : Prop := Sp w w.heap.size (.agg #[.bool false, mag]) (m : Int)
theorem sp_of_by {w w' : World} {B m : Nat} {mag : Value} (h : By w B mag m) (hb : Below B w w') (hB : B ≤ w'.heap.size) : Sp w' w'.heap.size (.agg #[.bool false, mag]) (m : Int) := by
  refine ⟨mag, ?_, (h.below hb).more hB⟩
  have : ¬ ((m : Int) < 0) := by omega
  simp [this]
theorem ldg_len (b : Nat) (hb : 2 ≤ b) : ∀ (f v k : Nat), v < 2 ^ k → (ldg b f v).length ≤ k
  | 0, v, k, h => by simp [ldg]
  | f + 1, v, k, h => by
    unfold ldg
    split
    · simp
    · rename_i h0
      cases k with
      | zero => simp at h; omega
      | succ k =>
        have h1 : v / b ≤ v / 2 := Nat.div_le_div_left hb (by omega)
        rw [Nat.pow_succ] at h
        have := ldg_len b hb f (v / b) k (by omega)
        simp; omega
theorem lim_two : lim = 2 ^ (8 * (8 * limW)) := by
  unfold lim
  rw [show (256 : Nat) = 2 ^ 8 from rfl, ← Nat.pow_mul]
theorem lim_bits : 8 * (8 * limW) = 32768 := by rw [limW_eq]
theorem tab_at (L : Nat) (h : L < 36) (h2 : L < (ByteArray.mk #[48, 49, 50, 51, 52, 53, 54, 55, 56, 57, 97, 98, 99, 100, 101, 102, 103, 104, 105, 106, 107, 108, 109, 110, 111, 112, 113, 114, 115, 116, 117, 118, 119, 120, 121, 122]).size) : ((ByteArray.mk #[48, 49, 50, 51, 52, 53, 54, 55, 56, 57, 97, 98, 99, 100, 101, 102, 103, 104, 105, 106, 107, 108, 109, 110, 111, 112, 113, 114, 115, 116, 117, 118, 119, 120, 121, 122])[L]'h2).toNat = sgnOf L := by
  have : ∀ (i : Fin 36), ((ByteArray.mk #[48, 49, 50, 51, 52, 53, 54, 55, 56, 57, 97, 98, 99, 100, 101, 102, 103, 104, 105, 106, 107, 108, 109, 110, 111, 112, 113, 114, 115, 116, 117, 118, 119, 120, 121, 122])[i.1]'i.2).toNat = sgnOf i.1 := by decide
  exact this ⟨L, h⟩
theorem own_base {w : World} {base base' e n : Nat} {v : Value} {xs : List Value} (h : w.ownsRow base e 1 v n xs) (hb : base' ≤ base) : w.ownsRow base' e 1 v n xs := by
  refine ⟨h.1, ?_⟩
  rcases h.2 with h | ⟨g, cap, cur, h', hb', rest⟩
  · exact .inl h
  · exact .inr ⟨g, cap, cur, h', Nat.le_trans hb hb', rest⟩
def slLen : Value → Nat
  | .slice _ n _ => n
  | _ => 0
/-- between two digits: what is left of the number, and the digits so far -/
def BaseRel (b m N H : Nat) (w1 : World) (out mm : Value) (W : World) : Prop :=
  ∃ (v f : Nat) (ms ds : List Nat), Bytes ms v ∧ ms.length ≤ N ∧ v ≤ f ∧ ldg b m m = ds ++ ldg b f v ∧ W.ownsRow H 5 1 out ds.length (ds.map fun d => bv (sgnOf d)) ∧ W.ownsRow H 5 1 mm ms.length (ms.map bv) ∧ Below H w1 W ∧ H ≤ W.heap.size ∧ (mm.ownBlock = none ∨ mm.ownBlock ≠ out.ownBlock)

set_option maxHeartbeats 1600000 in
theorem base_pos (m b : Nat) (mag : Value) (w : World) (h : By w w.heap.size mag m) (hm : m ≠ 0) (hl : m < lim) (hb : 2 ≤ b) (hb2 : b ≤ 36) :
    Calls Tryz.prog 7 #[.agg #[.bool false, mag], .int .i64 (b : Int)] w fun e w' => ∃ s : ByteArray, e = .returned (.string s) ∧ s.data.toList.map UInt8.toNat = (ldg b m m).reverse.map sgnOf ∧ Below w.heap.size w w' := by
  obtain ⟨i0, hi0, hz0, hz1, hz2⟩ := info_parts info8
  have HBY := Lib.hid h
  obtain ⟨xs, hxb, a, c, rfl, hc, hr⟩ := h
  simp only [List.length_map] at hc hr HBY ⊢
  have CZ := Lib.hid (base_zero m (.agg #[.bool false, .slice a xs.length c]) (w.alloc (.cells #[.bool false, .slice a xs.length c] 24)) (sp_of_by HBY.out ((Below.refl _ w).alloc (Nat.le_refl _) _) (by simp)) (by omega))
  have HS : Hid (Sl w w.heap.size (.slice a xs.length c) (xs.map bv)) := Lib.hid ⟨a, c, by simp, by simpa using hc, hr⟩
  clear hr
  have hN := hxb.length_le hl
  have HLIM := Lib.hid hl
  have HX := Lib.hid hxb
  have hne : xs.length ≠ 0 := by intro h; exact hm (hxb.nil_iff.1 (List.eq_nil_of_length_eq_zero h))
  have HB0 : Hid (Below w.heap.size w (w.alloc (.cells #[.bool false, .slice a xs.length c] 24))) := Lib.hid ((Below.refl _ _).alloc (Nat.le_refl _) _)
  clear hxb hl
  go_enter Tryz.func7, Tryz.ntmps7
  go_wp2_with fail
  refine CZ.out.mono ?_
  rintro e w1 ⟨rfl, hb1⟩
  have hk : Blk w1 w.heap.size 24 [.bool false, .slice a xs.length c] := (Blk.new w 24 [.bool false, .slice a xs.length c]).below hb1 (by simp)
  have hlt := hk.lt
  have c1 : w1.cell? ⟨w.heap.size, 1, none⟩ = some (.slice a xs.length c) := hk.cell 1 (by simp)
  have HK := Lib.hid hk
  have HB1 := Lib.hid (HB0.out.trans (hb1.mono HB0.out.size))
  have HSL : Hid (Sl ((w1.alloc (.cells #[] 5)).alloc (.cells #[] 5)) w.heap.size (.slice a xs.length c) (xs.map bv)) := Lib.hid (HS.out.below ((HB1.out.alloc (by omega) _).alloc (by simp; omega) _))
  clear hb1 CZ HB0 hk HBY
  have H1 := Lib.hid (show 0 + (xs.map bv).length ≤ maxLen by simp [maxLen]; omega)
  have H2 := Lib.hid (show (0 + (xs.map bv).length) * 1 ≤ 140737488355328 by simp; omega)
  have H3 := Lib.hid (show w1.heap.size + 1 ≤ ((w1.alloc (.cells #[] 5)).alloc (.cells #[] 5)).heap.size by simp)
  have HOL : Hid (((w1.alloc (.cells #[] 5)).alloc (.cells #[] 5)).ownsRow (w1.heap.size + 1) 5 1 (.slice (some ⟨w1.heap.size + 1, 0, none⟩) 0 0) 0 []) := Lib.hid (by simpa using World.ownsRow_lit (base := w1.heap.size + 1) (e := 5) (size := 1) (w1.alloc (.cells #[] 5)) #[] 0 (by simp) (by simp [maxLen]) rfl)
  go_wp2_with (at_builtin; refine wpList_append_sl _ ?g (.tmp 14) (.tmp 16) 22 ?ho (w1.heap.size + 1) 5 i0 ?z 1 ?ht ?hi ?hz ?hsize ?hby ?hzs ?v 0 [] ?hs ?A w.heap.size ?src ?news ?hx ?B ?C ?D ?E ?F ?G)
  case g => rfl
  case ho => rfl
  case ht => exact Tryz.underlying22
  case hi => exact hi0
  case hz => exact hz0
  case hsize => exact hz1
  case hby => exact hz2
  case hzs => rfl
  case hs => rfl
  case A => exact HOL.out
  case hx => rfl
  case B => exact HSL.out
  case C => exact oneCell_bv _
  case D => exact H1.out
  case E => exact H2.out
  case F => exact H3.out
  intro v' w2 hown hg
  have HO : Hid (w2.ownsRow (w1.heap.size + 1) 5 1 v' xs.length (xs.map bv)) := Lib.hid (by simpa using hown)
  have HG : Hid (World.grownBy ((w1.alloc (.cells #[] 5)).alloc (.cells #[] 5)) w2 (some (w1.heap.size + 1))) := Lib.hid hg
  clear hown hg
  obtain ⟨a2, c2, rfl⟩ := own_shape HO.out
  have HST : Hid (BaseRel b m xs.length (w.heap.size + 1) w1 (.slice (some ⟨w1.heap.size, 0, none⟩) 0 0) (.slice a2 xs.length c2) w2) := by
    have hbel : Below (w.heap.size + 1) w1 w2 := (((Below.refl _ w1).alloc (by omega) _).alloc (by simp; omega) _).grown HG.out (by simp; omega) (fun k hk => by injection hk with hk; omega)
    refine Lib.hid ⟨m, m, xs, [], HX.out, Nat.le_refl _, Nat.le_refl _, rfl, ?_, own_base (by simpa using HO.out) (by omega), hbel, by have := hbel.size; omega, ?_⟩
    · exact ((World.ownsRow_lit (base := w.heap.size + 1) (e := 5) (size := 1) w1 #[] 0 (by omega) (by simp [maxLen]) rfl).alloc (.cells #[] 5)).kept HG.out (.inr (by simp [Value.ownBlock]))
    · rcases hv : (Value.slice a2 xs.length c2).ownBlock with _ | k
      · exact .inl rfl
      · have := (HO.out.lt k hv).1
        right; simp [Value.ownBlock]; omega
  have hlt2 : w.heap.size < w2.heap.size := by
    have := HG.out.size; simp at this; omega
  have hk2 : Blk w2 w.heap.size 24 [.bool false, .slice a xs.length c] := (HK.out.alloc _ |>.alloc _).up HG.out (by simp [Value.ownBlock]; omega)
  have HK2 := Lib.hid hk2
  clear H1 H2 H3 HO HG HOL HSL c1 hk2
  go_wp2_with fail
  go_loopw [5, 6] (BaseRel b m xs.length (w.heap.size + 1) w1) (fun o _ _ => (ldg b m m).length - slLen o)
  case atStart => exact HST.out
  obtain ⟨v, f, ms, ds, hB, hn, hvf, hld, ho, hmm, hbel, hH, hne2⟩ := hrel
  clear HST HX HK2 hlt2
  obtain ⟨a5, c5, rfl⟩ := own_shape ho
  by_cases h0 : ms.length = 0
  · obtain rfl : ms = [] := List.eq_nil_of_length_eq_zero h0
    obtain rfl : v = 0 := hB.nil_iff.1 rfl
    obtain ⟨a6, c6', rfl⟩ := own_shape hmm
    simp only [List.length_nil] at *
    have hds : ldg b m m = ds := by
      rw [hld]; cases f <;> simp [ldg]
    have hbk : Blk wr w.heap.size 24 [.bool false, .slice a xs.length c] := HK.out.below hbel (by omega)
    have c0 : wr.cell? ⟨w.heap.size, 0, none⟩ = some (.bool false) := hbk.cell 0 (by simp)
    have hdn : ds.length ≠ 0 := by
      rw [← hds]
      intro h
      have h1 := ldg_val b (by omega) m m (Nat.le_refl _)
      rw [List.eq_nil_of_length_eq_zero h] at h1
      exact hm h1.symm
    have hdl : ds.length ≤ 32768 := by rw [← hds, ← lim_bits]; exact ldg_len b hb m m _ (by rw [← lim_two]; exact HLIM.out)
    have hd36 : ∀ d ∈ ds, d < 36 := by
      intro d hd; rw [← hds] at hd; have := ldg_lt b (by omega) m m d hd; omega
    obtain ⟨g, c6, hv, hHg, hc6⟩ := own_form ho hdn
    obtain ⟨rfl, rfl⟩ : a5 = some ⟨g, 0, none⟩ ∧ c5 = c6 := by simpa using hv
    obtain ⟨ys, hys⟩ : ∃ ys, ys = ds.map sgnOf := ⟨_, rfl⟩
    have hyl : ds.length = ys.length := by rw [hys]; simp
    have hyb : ∀ y ∈ ys, y < 256 := by
      intro y hy; rw [hys] at hy; obtain ⟨d, hd, rfl⟩ := List.mem_map.1 hy
      have := hd36 d hd; unfold sgnOf; split <;> omega
    have HGO : Hid ((ldg b m m).reverse.map sgnOf = ys.reverse) := Lib.hid (by rw [hds, hys, List.map_reverse])
    have HOY : Hid (wr.ownsRow (w.heap.size + 1) 5 1 (.slice (some ⟨g, 0, none⟩) ys.length c5) ys.length (ys.map bv)) := Lib.hid (by rw [← hyl, hys, List.map_map]; exact ho)
    rw [hyl] at hdn hdl hc6 ⊢
    have HBL := Lib.hid hbel
    have HYB := Lib.hid hyb
    clear hds hd36 hys hv hld hmm hne2 hB ho hbel hbk HK HLIM hn hvf hyb h0
    go_wp2_with fail
    go_loopw [9, 10] (fun i j W => ∃ (k : Nat) (cur : List Nat), k ≤ ys.length ∧ i = .int .i64 (k : Int) ∧ j = .int .i64 ((ys.length : Int) - 1 - k) ∧ 2 * k ≤ ys.length ∧ cur.length = ys.length ∧ Hid (∀ q, q < ys.length → cur.getD q 0 = if q < k ∨ ys.length ≤ q + k then ys.getD (ys.length - 1 - q) 0 else ys.getD q 0) ∧ Hid (W.ownsRow (w.heap.size + 1) 5 1 (.slice (some ⟨g, 0, none⟩) ys.length c5) ys.length (cur.map bv)) ∧ Hid (Below (w.heap.size + 1) w1 W)) (fun i _ _ => ys.length - (intOf i).toNat)
    case atStart => exact ⟨0, ys, Nat.zero_le _, rfl, by go_num, by omega, rfl, Lib.hid (fun q hq => by rw [if_neg (by omega)]), HOY, HBL⟩
    obtain ⟨k, cur, hk, rfl, rfl, h2k, hcl, hcur, hor, hbr⟩ := hrel
    by_cases hkl : 2 * k + 1 < ys.length
    · have hr0 := own_cell hor.out k (by omega)
      have hr1 := own_cell hor.out (ys.length - 1 - k) (by omega)
      rw [getD_map_bv _ _ (by omega)] at hr0 hr1
      have hf0 := own_free hor.out k
      have hf1 := own_free hor.out (ys.length - 1 - k)
      obtain ⟨j, hj⟩ : ∃ j : Nat, j = ys.length - 1 - k := ⟨_, rfl⟩
      rw [← hj] at hr1 hf1
      have hjI : ((ys.length : Int) - 1 - k) = (j : Int) := by omega
      rw [hjI]
      have hkj : (k : Int) < (j : Int) := by omega
      have hkn : k < ys.length := by omega
      have hjn : j < ys.length := by omega
      have hjk : ¬ j = k := by omega
      have HJ := Lib.hid hj
      clear hj hjI h2k
      generalize hxk : cur.getD k 0 = xk at *
      generalize hxj : cur.getD j 0 = xj at *
      have HSW := Lib.hid (swap_list HJ.out (by omega) hcl hxk hxj hcur.out)
      clear hxk hxj
      have hd0 : wr.drew.cell? ⟨g, k, none⟩ = some (.int .u8 (xk : Int)) := hr0
      have hd1 : wr.drew.cell? ⟨g, j, none⟩ = some (.int .u8 (xj : Int)) := hr1
      have hfd0 : wr.drew.frozen? ⟨g, k, none⟩ = false := hf0
      have hfd1 : wr.drew.frozen? ⟨g, j, none⟩ = false := hf1
      have hy1 : (wr.drew.setCell ⟨g, k, none⟩ (.int .u8 (xj : Int))).cell? ⟨g, j, none⟩ = some (.int .u8 (xj : Int)) := (World.cell?_setCell_other wr.drew ⟨g, k, none⟩ ⟨g, j, none⟩ _ (by intro e; injection e with _ e; omega)).trans hd1
      go_wp2_with fail
      go_region
      have hne2 : ¬ w.heap.size = g := by omega
      go_wp2_with fail
      go_roundw
      case rel =>
        have hJ := HJ.out
        refine ⟨k + 1, (cur.set k xj).set j xk, by omega, by go_num, by congr 1; omega, by omega, by simp [hcl], HSW, Lib.hid ?_, Lib.hid (((hbr.out.setCell (p := ⟨g, k, none⟩) hHg _).setCell (p := ⟨g, j, none⟩) hHg _).drew)⟩
        have := own_set (own_set hor.out k hkn (bv xj)) j hjn (bv xk)
        rw [← List.map_set, ← List.map_set] at this
        exact this
      case measure => simp [intOf]; omega
    · have hend := swap_end h2k (by omega) hcl hcur.out
      subst hend
      have hcv := conv_row hor.out
      have HSR := Lib.hid (str_row (ys := ys.reverse) (fun y hy => HYB.out y (by simpa using hy)))
      have HB := Lib.hid (HB1.out.trans (hbr.out.mono (by omega)))
      clear hor hbr hcur hcl HYB HBL HOY
      go_wp2_with fail
      go_ret
      exact ⟨_, rfl, by rw [← List.map_reverse, HSR.out, HGO.out], HB.out⟩
  · obtain ⟨g, c6, rfl, hHg, hc6⟩ := own_form hmm h0
    have HSTI : Hid (wr.ownsRow (w.heap.size + 1) 5 1 (.slice (some ⟨g, 0, none⟩) ms.length c6) ms.length ((dvm b ms 0).map bv)) := Lib.hid (by rw [dvm_zero]; exact hmm)
    have HO := Lib.hid ho
    have HBL := Lib.hid hbel
    have HH := Lib.hid hH
    have HN2 : Hid (∀ k, (Value.slice a5 ds.length c5).ownBlock = some k → k ≠ g) := Lib.hid (fun k hk e => by
      subst e
      rcases hne2 with h | h
      · simp [Value.ownBlock] at h
      · exact h (by rw [hk]; simp [Value.ownBlock]))
    have HBY := Lib.hid hB
    have HV := Lib.hid (And.intro hvf hld)
    have hms := hB.lt
    have HMS := Lib.hid hms
    clear ho hbel hH hne2 hB hvf hld hms hmm
    go_wp2_with fail
    go_loopw [7, 8] (fun L i W => ∃ k : Nat, k ≤ ms.length ∧ i = .int .i64 (k : Int) ∧ L = .int .i64 ((dvr b 0 (ms.take k) : Nat) : Int) ∧ Hid (W.ownsRow (w.heap.size + 1) 5 1 (.slice (some ⟨g, 0, none⟩) ms.length c6) ms.length ((dvm b ms k).map bv)) ∧ Hid (W.ownsRow (w.heap.size + 1) 5 1 (.slice a5 ds.length c5) ds.length (ds.map fun d => bv (sgnOf d))) ∧ Hid (Below (w.heap.size + 1) w1 W) ∧ Hid (w.heap.size + 1 ≤ W.heap.size)) (fun _ i _ => ms.length - (intOf i).toNat)
    case atStart => exact ⟨0, Nat.zero_le _, rfl, rfl, HSTI, HO, HBL, HH⟩
    obtain ⟨k, hk, rfl, rfl, hmr, hor, hbr, hhr⟩ := hrel
    by_cases hkl : k < ms.length
    · have hcell : wr.cell? ⟨g, k, none⟩ = some (.int .u8 ((ms.getD k 0 : Nat) : Int)) := by
        rw [own_cell hmr.out k hkl, getD_map_bv _ k (by rw [dvm_length _ _ _ hk]; exact hkl), dvm_get _ _ _ hkl]
      have hfree := own_free hmr.out k
      have hx : ms.getD k 0 < 256 := HMS.out _ (by rw [List.getD_eq_getElem?_getD, List.getElem?_eq_getElem hkl]; simp)
      have hL : dvr b 0 (ms.take k) < b := dvr_lt b (by omega) _ _ (by omega)
      have HSET := Lib.hid (dvm_set b ms k hkl)
      have HNX := Lib.hid (dvr_next b ms k hkl)
      generalize ms.getD k 0 = x at *
      generalize hLL : dvr b 0 (ms.take k) = L at *
      clear hLL
      have hq := (div_round b L x 0 (by omega) hL hx).1
      have e1 : ((L : Int) * 256 + (x : Int)) / (b : Int) % 256 = (((L * 256 + x) / b : Nat) : Int) := by
        have : ((L : Int) * 256 + (x : Int)) / (b : Int) = (((L * 256 + x) / b : Nat) : Int) := by push_cast; rfl
        rw [this]
        generalize (L * 256 + x) / b = q at hq
        omega
      have E1 := Lib.hid e1
      have HHG := Lib.hid hHg
      clear e1 hq HHG
      go_wp2_with fail
      rw [E1.out]
      go_roundw
      case rel =>
        refine ⟨k + 1, by omega, by go_num, ?_, Lib.hid ?_, Lib.hid ?_, Lib.hid (hbr.out.setCell hHg _), Lib.hid (by simpa using hhr.out)⟩
        · rw [HNX.out]; push_cast; rfl
        · have := own_set hmr.out k hkl (bv ((L * 256 + x) / b))
          rw [← List.map_set, HSET.out] at this
          exact this
        · exact ownsRow_setCell_other hor.out (fun e => HN2.out _ e rfl) _
      case measure => simp [intOf]; omega
    · obtain rfl : k = ms.length := by omega
      rw [List.take_length]
      rw [dvm_all] at hmr
      obtain ⟨hd1, hd2⟩ := dv_bval b (by omega) ms
      have hL : dvr b 0 ms < b := dvr_lt b (by omega) _ _ (by omega)
      have HC := Lib.hid (cut_own (dvq b 0 ms) (.slice (some ⟨g, 0, none⟩) ms.length c6) wr (dvq_lt b (by omega) ms 0 (by omega) HMS.out) (by rw [dvq_length]; omega) (Sl.of_own (by rw [List.length_map, dvq_length]; exact hmr.out)))
      have HD := Lib.hid (And.intro hd1 hd2)
      clear hd1 hd2 hmr HSTI HO HBL HH hHg hc6
      generalize hLL : dvr b 0 ms = L at *
      have HLL := Lib.hid hLL; clear hLL
      go_wp2_with fail
      refine HC.out.mono ?_
      rintro e w3 ⟨v3, ns, rfl, hB3, hl3, ho3, hb3⟩
      have HO3 := Lib.hid ho3
      have HB3 := Lib.hid hb3
      have HBB := Lib.hid hB3
      have HOR : Hid (w3.ownsRow (w.heap.size + 1) 5 1 (.slice a5 ds.length c5) ds.length (ds.map fun d => bv (sgnOf d))) := Lib.hid (hor.out.kept (row := none) ⟨hb3.os, hb3.tape, hb3.output, hb3.size, fun k hk _ => hb3.block k hk⟩ (by cases (Value.slice a5 ds.length c5).ownBlock <;> simp))
      have hds : ds.length ≤ 32768 := by
        have h1 := ldg_len b hb m m (8 * (8 * limW)) (by rw [← lim_two]; exact HLIM.out)
        rw [lim_bits] at h1
        rw [HV.out.2, List.length_append] at h1
        omega
      clear ho3 hb3 hB3 HC
      go_wp2_with (at_builtin; (refine wpList_append_own_at _ ?q_g (.tmp 47) (.tmp 50) 22 ?q_ho (w.heap.size + 1) 5 i0 ?q_z 1 1 ?q_ht ?q_hi ?q_hz ?q_hsize ?q_hby ?q_hzs ?q_hsz ?q_v ds.length ?q_xs ?q_hs ?q_A ⟨w3.heap.size, 0, none⟩ 1 1 ?q_news ?q_hx ?q_hl ?q_hn ?q_h1 ?q_D ?q_E ?q_F ?q_G))
      case q_g => rfl
      case q_ho => rfl
      case q_ht => exact Tryz.underlying22
      case q_hi => exact hi0
      case q_hz => exact hz0
      case q_hsize => exact hz1
      case q_hby => exact hz2
      case q_hzs => rfl
      case q_hsz => exact Nat.one_pos
      case q_hs => rfl
      case q_A => exact HOR.out.alloc _
      case q_hx => rfl
      case q_hn => exact cell_one_new _ _ _
      case q_hl => rfl
      case q_h1 => simp [Value.oneCell']
      case q_D => simp [maxLen]; omega
      case q_E => omega
      case q_F => have h1 := hhr.out; have h2 := HB3.out.size; simp; omega
      intro v' w4 h1 h2 _ h4
      simp only [tab_at L (by omega)] at h1
      obtain ⟨a7, c7, rfl⟩ := own_shape h1
      have hv0 : v ≠ 0 := by
        intro h; have := HBY.out.nil_iff.2 h; rw [this] at h0; exact h0 rfl
      obtain ⟨f', rfl⟩ : ∃ f', f = f' + 1 := ⟨f - 1, by have := HV.out.1; omega⟩
      have hval : bval ms = v := Rep.val HBY.out
      have hL2 : L = v % b := by rw [← hval]; exact HD.out.2
      have hq2 : bval (dvq b 0 ms) = v / b := by rw [← hval]; exact HD.out.1
      have hld : ldg b m m = (ds ++ [L]) ++ ldg b f' (v / b) := by
        rw [HV.out.2, List.append_assoc, hL2]
        congr 1
        show (if v = 0 then [] else v % b :: ldg b f' (v / b)) = _
        rw [if_neg hv0]; rfl
      have key : ∀ u : Value, World.grownBy (w3.alloc (.cells #[u] 5)) w4 (Value.slice a5 ds.length c5).ownBlock → ((Value.slice a7 (ds.length + 1) c7).ownBlock = (Value.slice a5 ds.length c5).ownBlock ∨ (Value.slice a7 (ds.length + 1) c7).ownBlock = some (w3.heap.size + 1)) → BaseRel b m xs.length (w.heap.size + 1) w1 (.slice a7 (ds.length + 1) c7) v3 w4 := by
        intro u hg hat
        have hsz := HB3.out.size
        have hh := hhr.out
        have hap : v3.ownBlock = none ∨ v3.ownBlock ≠ (Value.slice a5 ds.length c5).ownBlock := by
          rcases hv : v3.ownBlock with _ | k
          · exact .inl rfl
          · have q1 := (HO3.out.lt k hv).1
            right; intro e
            have q2 := (hor.out.lt k e.symm).2
            omega
        refine ⟨v / b, f', ns, ds ++ [L], by rw [← hq2]; exact HBB.out, ?_, ?_, hld, ?_, own_base ((HO3.out.alloc _).kept hg hap) hh, ((hbr.out.trans (HB3.out.mono hh)).alloc (by omega) _).grown hg (by simp; omega) (fun k hk => (hor.out.lt k hk).1), ?_, ?_⟩
        · rw [dvq_length] at hl3; omega
        · have := Nat.div_lt_self (show 0 < v by omega) (show 1 < b by omega); have := HV.out.1; omega
        · rw [List.length_append, List.map_append]; exact h1
        · have := hg.size; simp at this; omega
        · rcases hv : v3.ownBlock with _ | k
          · exact .inl rfl
          · right
            have q1 := (HO3.out.lt k hv).2
            rw [hv] at hap
            rcases hat with hat | hat
            · rw [hat]
              rcases hap with h | h
              · cases h
              · exact h
            · rw [hat]; intro e; injection e with e; omega
      have HREL := Lib.hid (key _ h2 h4)
      have HLT : Hid (ds.length < (ldg b m m).length) := Lib.hid (by rw [hld]; simp)
      clear key h1 h2 h4 hld hq2 hL2 hval hv0 HV HD HBY HBB HB3 HO3 HOR HLL HN2 HMS hor hbr hhr
      go_wp2_with fail
      go_roundw
      case rel => exact HREL.out
      case measure => have := HLT.out; simp only [slLen]; omega
end Go.Proofs.YtbfgjaammmpcdaaGreatDoor
