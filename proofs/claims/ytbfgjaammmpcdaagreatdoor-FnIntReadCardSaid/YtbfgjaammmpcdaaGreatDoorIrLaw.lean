/- The law FnIntRead: its walk. -/
import Derived.Test.YtbfgjaammmpcdaaGreatDoorTellInt
import Derived.Test.YtbfgjaammmpcdaaGreatDoorIrLawM
import Derived.Test.YtbfgjaammmpcdaaGreatDoorBase0
import Derived.Test.YtbfgjaammmpcdaaGreatDoorLawsWhole
import Derived.Test.YtbfgjaammmpcdaaGreatDoorSpecIs
import Derived.Test.YtbfgjaammmpcdaaGreatDoorRowSl
import Derived.Test.YtbfgjaammmpcdaaGreatDoorAscii
import Derived.Deep.CutRange
import Derived.Deep.RegionHeld3
import Derived.Lib.SlBytesConst
namespace Go.Proofs.YtbfgjaammmpcdaaGreatDoor
open Go.RowKit Dig
set_option linter.unusedVariables false
set_option linter.unusedSimpArgs false
set_option maxRecDepth 1000000

/-- the row of the text's signs, room behind it -/
def IrRow (W : World) (g cap : Nat) (cur : List Nat) : Prop := BlkM W g 5 (cur.map bv ++ List.replicate (cap - cur.length) (.int .u8 0))
theorem IrRow.cell {W : World} {g cap : Nat} {cur : List Nat} (h : IrRow W g cap cur) (k : Nat) (hk : k < cur.length) : W.cell? ⟨g, k, none⟩ = some (.int .u8 ((cur.getD k 0 : Nat) : Int)) := by
  rw [BlkM.cell h k (by simp; omega), List.getD_eq_getElem?_getD, List.getElem?_append_left (by simpa using hk), ← List.getD_eq_getElem?_getD, getD_map_bv _ _ hk]
theorem IrRow.free {W : World} {g cap : Nat} {cur : List Nat} (h : IrRow W g cap cur) (k : Nat) (hk : k < cur.length) : W.frozen? ⟨g, k, none⟩ = false := BlkM.free h k (by simp; omega)
theorem IrRow.set {W : World} {g cap : Nat} {cur : List Nat} (h : IrRow W g cap cur) (k x : Nat) (hk : k < cur.length) : IrRow (W.setCell ⟨g, k, none⟩ (.int .u8 (x : Int))) g cap (cur.set k x) := by
  have h2 := BlkM.set h k (bv x)
  rw [List.set_append_left _ _ (by simpa using hk), ← List.map_set] at h2
  unfold IrRow
  rw [List.length_set]
  exact h2
theorem IrRow.below {W W' : World} {g cap B : Nat} {cur : List Nat} (h : IrRow W g cap cur) (hb : Below B W W') (hg : g < B) : IrRow W' g cap cur := (hb.block g hg).trans h
theorem IrRow.lt {W : World} {g cap : Nat} {cur : List Nat} (h : IrRow W g cap cur) : g < W.heap.size := by
  rcases Nat.lt_or_ge g W.heap.size with hlt | hge
  · exact hlt
  · unfold IrRow BlkM at h; rw [Array.getElem?_eq_none hge] at h; cases h
theorem IrRow.new (w : World) (s : ByteArray) (cap : Nat) (cur : List Nat) (hs : s.data.toList.map UInt8.toNat = cur) : IrRow (w.alloc (.cells (bytesRow s cap) 5 ((bytesRow s cap).size, (bytesRow s cap).size + 1))).drew w.heap.size cap cur := by
  have hl := size_nat hs
  have hrow : (bytesRow s cap).toList = cur.map bv ++ List.replicate (cap - cur.length) (.int .u8 0) := by
    rw [bytesRow, ← hl, ← hs]; simp [bv, Function.comp_def]
  unfold IrRow BlkM
  rw [← hrow, Array.toArray_toList, Array.length_toList]
  exact heap_alloc_new w _
/-- the row as a text -/
theorem IrRow.text {W : World} {g cap : Nat} {cur : List Nat} (h : IrRow W g cap cur) (hc : ∀ x ∈ cur, x < 256) :
    (convert 22 9 (.slice (some ⟨g, 0, none⟩) cur.length cap)).run Tryz.prog W = .ok (.string ⟨(cur.map UInt8.ofNat).toArray⟩) W := by
  have hcb := run_convert_bytes_back (P := Tryz.prog) W 22 9 5 ⟨g, 0, none⟩ cap (cur.map UInt8.ofNat) Tryz.underlying22 Tryz.underlying5 Tryz.underlying9 (by
    intro j hj
    have hj' : j < cur.length := by simpa using hj
    have hx : cur.getD j 0 < 256 := hc _ (by rw [List.getD_eq_getElem?_getD, List.getElem?_eq_getElem hj']; simp)
    rw [add_zero0, h.cell j hj']
    rw [List.getD_eq_getElem?_getD, List.getElem?_eq_getElem hj'] at hx ⊢
    simp at hx ⊢
    omega)
  rwa [List.length_map] at hcb
theorem text_nat {cur : List Nat} (hc : ∀ x ∈ cur, x < 256) : (⟨(cur.map UInt8.ofNat).toArray⟩ : ByteArray).data.toList.map UInt8.toNat = cur := by
  show ((cur.map UInt8.ofNat).toArray.toList).map UInt8.toNat = cur
  rw [List.toList_toArray, List.map_map]
  conv => rhs; rw [← List.map_id cur]
  apply List.map_congr_left
  intro x hx
  have := hc x hx
  simp [Nat.mod_eq_of_lt this]
def tab37 : List Nat := [48, 49, 50, 51, 52, 53, 54, 55, 56, 57, 97, 98, 99, 100, 101, 102, 103, 104, 105, 106, 107, 108, 109, 110, 111, 112, 113, 114, 115, 116, 117, 118, 119, 120, 121, 122, 123]
theorem tab37_at (b : Nat) (hb : b < 37) : tab37.getD b 0 = sgnOf b := by
  have : ∀ i : Fin 37, tab37.getD i.1 0 = sgnOf i.1 := by decide
  exact this ⟨b, hb⟩
/-- the world behind the table's laying -/
def tabW (w : World) : World := w.alloc (.cells (tab37.map bv).toArray 5 (37, 38))
theorem tabW_conv (w : World) : (convert 22 22 (.slice (some ⟨w.heap.size, 0, none⟩) 37 37)).run Tryz.prog (w.alloc (.cells #[Value.int .u8 48, .int .u8 49, .int .u8 50, .int .u8 51, .int .u8 52, .int .u8 53, .int .u8 54, .int .u8 55, .int .u8 56, .int .u8 57, .int .u8 97, .int .u8 98, .int .u8 99, .int .u8 100, .int .u8 101, .int .u8 102, .int .u8 103, .int .u8 104, .int .u8 105, .int .u8 106, .int .u8 107, .int .u8 108, .int .u8 109, .int .u8 110, .int .u8 111, .int .u8 112, .int .u8 113, .int .u8 114, .int .u8 115, .int .u8 116, .int .u8 117, .int .u8 118, .int .u8 119, .int .u8 120, .int .u8 121, .int .u8 122, .int .u8 123] 5)) = .ok (.slice (some ⟨w.heap.size, 0, none⟩) 37 37) (tabW w) := by
  rw [Lib.run_convert_bytes_const (P := Tryz.prog) w 22 5 _ 37 37 Tryz.underlying22 Tryz.underlying5]
  rfl
theorem tabW_cell (w : World) (b : Nat) (hb : b < 37) : (tabW w).cell? ⟨w.heap.size, b, none⟩ = some (.int .u8 ((sgnOf b : Nat) : Int)) := by
  have h : BlkM (tabW w) w.heap.size 5 (tab37.map bv) := heap_alloc_new w _
  rw [h.cell b (by simpa [tab37] using hb), getD_map_bv _ _ (by simpa [tab37] using hb), tab37_at b hb]
theorem tabW_below (w : World) : Below w.heap.size w (tabW w) := (Below.refl _ _).alloc (Nat.le_refl _) _
/-- each sign is one of its digit -/
def Digs (b m : Nat) (cur : List Nat) : Prop := cur.length = (digs b m).length ∧ ∀ k, k < cur.length → IsDig (cur.getD k 0) ((digs b m).getD k 0)
theorem Digs.start {b m : Nat} (hb : 2 ≤ b) (hb2 : b ≤ 36) : Digs b m ((digs b m).map sgnOf) := by
  refine ⟨by simp, fun k hk => ?_⟩
  have hk' : k < (digs b m).length := by simpa using hk
  have hd := digs_lt b m hb _ (List.getElem_mem hk')
  rw [List.getD_eq_getElem?_getD, List.getD_eq_getElem?_getD, List.getElem?_map, List.getElem?_eq_getElem hk']
  exact IsDig.of (by omega)
theorem Digs.lt {b m : Nat} {cur : List Nat} (h : Digs b m cur) : ∀ x ∈ cur, x < 256 := by
  intro x hx
  obtain ⟨k, hk, rfl⟩ := List.getElem_of_mem hx
  have := (h.2 k hk).lt
  rw [List.getD_eq_getElem?_getD, List.getElem?_eq_getElem hk] at this
  simp at this
  omega
theorem getD_set_self {cur : List Nat} {k x : Nat} (hk : k < cur.length) : (cur.set k x).getD k 0 = x := by
  rw [List.getD_eq_getElem?_getD, List.getElem?_set_self hk]; rfl
theorem getD_set_ne {cur : List Nat} {k j x : Nat} (e : k ≠ j) : (cur.set k x).getD j 0 = cur.getD j 0 := by
  rw [List.getD_eq_getElem?_getD, List.getElem?_set_ne e, ← List.getD_eq_getElem?_getD]
/-- what the text is, spoilt or not -/
theorem body_all {b m n : Nat} {S : Bool} {cur cur2 : List Nat} {body : ByteArray} (hb : 2 ≤ b) (hb2 : b ≤ 36) (hm : m < lim) (hn : n ≤ 480) (hn0 : 0 < n) (hdg : Digs b m cur) (hcl : cur.length = n) (hcl2 : cur2.length = n) (hsp : (S = false ∧ cur2 = cur) ∨ (S = true ∧ ∃ i, i < n ∧ cur2 = cur.set i (sgnOf b))) (hs : body.data.toList.map UInt8.toNat = cur2) :
    ∃ ds, NumTxt b body ds ∧ (S = false → ds = digs b m ∧ ds.length = body.size) ∧ (S = true → ds.length < body.size) ∧ ∃ h0 : 0 < body.size, body.size = 1 ∨ (body[0]'h0).toNat ≠ 48 := by
  have hsz := size_nat hs
  have h0 : 0 < body.size := by omega
  rcases hsp with ⟨rfl, rfl⟩ | ⟨rfl, i, hi, rfl⟩
  · exact ⟨digs b m, numTxt_all hb hb2 hs hdg.1 (by have := hdg.1; omega) hm hdg.2, fun _ => ⟨rfl, by rw [← hdg.1]; omega⟩, fun h => (by cases h), h0, first_all hb hs hdg.1 hdg.2 h0⟩
  · refine ⟨_, numTxt_bad hb hb2 hs hdg.1 (by omega) (by have := hdg.1; omega) hm hdg.2, fun h => (by cases h), fun _ => ?_, h0, first_bad hb hs hdg.1 hdg.2 h0 (by omega)⟩
    rw [List.length_take]; omega
theorem pfx_at (b : Nat) (hb : b < 37) : ([Value.string ⟨#[]⟩, .string ⟨#[]⟩, .string ⟨#[48, 98]⟩, .string ⟨#[]⟩, .string ⟨#[]⟩, .string ⟨#[]⟩, .string ⟨#[]⟩, .string ⟨#[]⟩, .string ⟨#[48, 111]⟩, .string ⟨#[]⟩, .string ⟨#[]⟩, .string ⟨#[]⟩, .string ⟨#[]⟩, .string ⟨#[]⟩, .string ⟨#[]⟩, .string ⟨#[]⟩, .string ⟨#[48, 120]⟩, .string ⟨#[]⟩, .string ⟨#[]⟩, .string ⟨#[]⟩, .string ⟨#[]⟩, .string ⟨#[]⟩, .string ⟨#[]⟩, .string ⟨#[]⟩, .string ⟨#[]⟩, .string ⟨#[]⟩, .string ⟨#[]⟩, .string ⟨#[]⟩, .string ⟨#[]⟩, .string ⟨#[]⟩, .string ⟨#[]⟩, .string ⟨#[]⟩, .string ⟨#[]⟩, .string ⟨#[]⟩, .string ⟨#[]⟩, .string ⟨#[]⟩, .string ⟨#[]⟩] : List Value)[b]? = some (.string (pfxOf b)) := by
  have e : ([Value.string ⟨#[]⟩, .string ⟨#[]⟩, .string ⟨#[48, 98]⟩, .string ⟨#[]⟩, .string ⟨#[]⟩, .string ⟨#[]⟩, .string ⟨#[]⟩, .string ⟨#[]⟩, .string ⟨#[48, 111]⟩, .string ⟨#[]⟩, .string ⟨#[]⟩, .string ⟨#[]⟩, .string ⟨#[]⟩, .string ⟨#[]⟩, .string ⟨#[]⟩, .string ⟨#[]⟩, .string ⟨#[48, 120]⟩, .string ⟨#[]⟩, .string ⟨#[]⟩, .string ⟨#[]⟩, .string ⟨#[]⟩, .string ⟨#[]⟩, .string ⟨#[]⟩, .string ⟨#[]⟩, .string ⟨#[]⟩, .string ⟨#[]⟩, .string ⟨#[]⟩, .string ⟨#[]⟩, .string ⟨#[]⟩, .string ⟨#[]⟩, .string ⟨#[]⟩, .string ⟨#[]⟩, .string ⟨#[]⟩, .string ⟨#[]⟩, .string ⟨#[]⟩, .string ⟨#[]⟩, .string ⟨#[]⟩] : List Value) = (List.range 37).map fun i => Value.string (pfxOf i) := rfl
  rw [e, List.getElem?_map, List.getElem?_range hb]
  rfl
theorem pfxOf_some {b : Nat} (hb : b = 2 ∨ b = 8 ∨ b = 16) : (pfxOf b).size = 2 := by rcases hb with rfl | rfl | rfl <;> rfl
theorem pfxOf_none {b : Nat} (hb : ¬ (b = 2 ∨ b = 8 ∨ b = 16)) : pfxOf b = ⟨#[]⟩ := by
  unfold pfxOf; rw [if_neg (by omega), if_neg (by omega), if_neg (by omega)]
/-- one sign made great -/
theorem Digs.up {b m k : Nat} {cur : List Nat} (h : Digs b m cur) (hk : k < cur.length) (hc : cur.getD k 0 = sgnOf ((digs b m).getD k 0)) (h97 : 97 ≤ cur.getD k 0) : Digs b m (cur.set k (cur.getD k 0 - 32)) := by
  refine ⟨by rw [List.length_set]; exact h.1, fun j hj => ?_⟩
  rw [List.length_set] at hj
  by_cases e : k = j
  · subst e
    rw [getD_set_self hk, hc]
    have := IsDig.up (h.2 k hk).1
    rw [if_pos (by rw [← hc]; exact h97)] at this
    exact this
  · rw [getD_set_ne e]
    exact h.2 j hj

theorem val_cells2 {w : World} {b : Nat} {neg : Bool} {a : Option Addr} {k c : Nat} (h : Blk w b 28 [.int .i64 2, .bool neg, .slice a k c, .int .u64 0, .string ByteArray.empty, .slice none 0 0]) :
    w.cell? ⟨b, 0, none⟩ = some (.int .i64 2) ∧ w.cell? ⟨b, 1, none⟩ = some (.bool neg) ∧ w.cell? ⟨b, 2, none⟩ = some (.slice a k c) ∧ w.cell? ⟨b, 3, none⟩ = some (.int .u64 0) ∧ w.cell? ⟨b, 4, none⟩ = some (.string ByteArray.empty) ∧ w.cell? ⟨b, 5, none⟩ = some (.slice none 0 0) :=
  ⟨h.cell 0 (by simp), h.cell 1 (by simp), h.cell 2 (by simp), h.cell 3 (by simp), h.cell 4 (by simp), h.cell 5 (by simp)⟩
theorem lim5 : (5 : Int).natAbs < lim := by
  unfold lim
  exact Nat.lt_of_lt_of_le (show (5 : Int).natAbs < 256 ^ 1 by decide) (Nat.pow_le_pow_right (by omega) (by rw [limW_eq]; omega))
theorem five_any (eP nP : Addr) (w : World) (hg : NumG eP nP w.heap.size w) : Calls Tryz.prog 8 #[.string ⟨#[53]⟩, .int .i64 10] w (IrPost false 10 [5] 1 w) := by
  have ht : NumTxt 10 (⟨#[53]⟩ : ByteArray) [5] := by
    refine ⟨by omega, by omega, by decide, by decide, by decide, ?_, fun h => absurd h (by decide), by exact lim5⟩
    intro k hk hkd
    obtain rfl : k = 0 := by simp at hkd; exact hkd
    exact ⟨⟨by decide, .inl rfl⟩, by decide⟩
  have hp : PfxTxt (⟨#[53]⟩ : ByteArray) 10 10 (⟨#[53]⟩ : ByteArray) 53 := ⟨by decide, by decide, rfl, .inl ⟨.inl rfl, rfl, .inl rfl⟩⟩
  exact intRead_any ⟨#[53]⟩ ⟨#[53]⟩ ⟨#[53]⟩ 10 10 53 53 false [5] eP nP w (sgn_none hp ht) hp (by omega) ht hg

set_option maxHeartbeats 6400000 in
theorem lawIntRead (an : Bool) (a : Value) (ms : List Nat) (base way at_ : Nat) (eP nP : Addr) (w : World) (hms : ∀ x ∈ ms, x < 256) (ha : Sl w w.heap.size a (ms.map bv)) (lm : ms.length ≤ maxLen) (hba : base < 256) (hwa : way < 256) (hat : at_ < 256) (hg : NumG eP nP w.heap.size w) :
    Calls Tryz.prog 3 #[.bool an, a, .int .u8 (base : Int), .int .u8 (way : Int), .int .u8 (at_ : Int)] w fun e w' => e = .returned (.bool true) ∧ Below w.heap.size w w' := by
  simp only [maxLen] at lm
  obtain ⟨aa, ca, rfl, hca, _⟩ := id ha
  simp only [List.length_map] at ha hca ⊢
  by_cases l1 : ms.length ≤ 2147483647
  · have WA := Lib.hid (lawsWhole_any an ms _ 60 w hms ha l1 (by omega))
    have HG := Lib.hid hg
    clear ha hms hg
    have hcv := fun (W : World) (t : ByteArray) => run_bytes_of_string (P := Tryz.prog) W 9 22 5 t Tryz.underlying9 Tryz.underlying22 Tryz.underlying5
    obtain ⟨b, hb⟩ : ∃ b : Nat, b = base % 35 + 2 := ⟨_, rfl⟩
    have hbI : (base : Int) % 35 + 2 = (b : Int) := by omega
    have hb2_ : 2 ≤ b := by omega
    have hb36 : b ≤ 36 := by omega
    have HBI := Lib.hid hbI
    clear hb hbI
    go_enter Tryz.func3, Tryz.ntmps3
    go_wp2_with fail
    refine WA.out.mono ?_
    rintro e w1 ⟨i, n1, n2, a1, a2, k1, c1, k2, c2, hi, rfl, hx, hp, hb1⟩
    have HX := Lib.hid hx; have HB1 := Lib.hid hb1; have HI := Lib.hid hi
    clear hx hp hb1 hi WA
    go_wp2_with fail
    rw [HBI.out]
    obtain ⟨W1, hW1⟩ : ∃ W1, W1 = (w1.alloc (.cells #[.bool n1, .slice a1 k1 c1] 24)).alloc (.cells #[.int .i64 2, .bool n2, .slice a2 k2 c2, .int .u64 0, .string ByteArray.empty, .slice none 0 0] 28) := ⟨_, rfl⟩
    rw [← hW1]
    have hbW : Below w1.heap.size w1 W1 := by rw [hW1]; exact ((Below.refl _ _).alloc (Nat.le_refl _) _).alloc (by simp) _
    have hkX : Blk W1 w1.heap.size 24 [.bool n1, .slice a1 k1 c1] := by rw [hW1]; exact (Blk.new w1 _ [.bool n1, .slice a1 k1 c1]).alloc _
    obtain ⟨mag, hv, hby⟩ := HX.out
    obtain ⟨hn1, rfl⟩ : n1 = decide (i < 0) ∧ mag = .slice a1 k1 c1 := by
      injection hv with hv
      have := congrArg Array.toList hv
      simp at this
      exact ⟨this.1, this.2.symm⟩
    obtain ⟨m, hm⟩ : ∃ m, m = i.natAbs := ⟨_, rfl⟩
    rw [← hm] at hby
    have hml : m < 2 ^ (8 * 60) := by
      have := HI.out
      rw [← hm, show (256 : Nat) = 2 ^ 8 from rfl, ← Nat.pow_mul] at this
      exact this
    have hlim : m < lim := lt_lim (j := 60) (by rw [hm]; exact HI.out) (by omega)
    have HX1 : Hid (By W1 W1.heap.size (.slice a1 k1 c1) m) := Lib.hid ((hby.below hbW).more hbW.size)
    have HKX := Lib.hid hkX
    have HBW := Lib.hid (HB1.out.trans (hbW.mono HB1.out.size))
    have HN1 := Lib.hid hn1
    have HM := Lib.hid hm
    have HLIM := Lib.hid hlim
    have HML := Lib.hid hml
    have hWs : w1.heap.size < W1.heap.size := hkX.lt
    have hws : w.heap.size ≤ w1.heap.size := HB1.out.size
    obtain ⟨xs1, hB1x, hS1⟩ := HX1.out
    have CO := Lib.hid (of_any false xs1 (.slice a1 k1 c1) W1 hB1x.lt (by have := hB1x.length_le hlim; omega) hS1)
    rw [hB1x.bval] at CO
    clear hv hby hn1 hm hml hlim hbW hkX hB1x hS1 HX HB1 HI
    clear hW1
    with_reducible refine CO.out.mono ?_
    rintro e w2 ⟨v2, xs2, rfl, hB2, hS2, hb2⟩
    obtain ⟨a3, c3, rfl, _⟩ := id hS2
    have CB := Lib.hid (base_any m b _ w2 ⟨xs2, hB2, hS2⟩ HLIM.out hb2_ hb36)
    rw [List.length_map] at CB
    have HB2 := Lib.hid hb2
    clear hB2 hS2 hb2 CO
    rw [Bool.false_and]
    go_wp2_with fail
    with_reducible refine CB.out.mono ?_
    rintro e w3 ⟨s, rfl, hs, hb3⟩
    have HB3 := Lib.hid (HB2.out.trans (hb3.mono HB2.out.size))
    have HS := Lib.hid hs
    clear hb3 hs CB HB2
    go_upto_if 47 with fail
    obtain ⟨cap, hcap⟩ : ∃ cap, cap = grownCap w3 s.size 0 5 := ⟨_, rfl⟩
    rw [← hcap]
    obtain ⟨W0, hW0⟩ : ∃ W0, W0 = (w3.alloc (.cells (bytesRow s cap) 5 ((bytesRow s cap).size, (bytesRow s cap).size + 1))).drew := ⟨_, rfl⟩
    rw [← hW0]
    have hrow : IrRow W0 w3.heap.size cap ((digs b m).map sgnOf) := by rw [hW0]; exact IrRow.new w3 s cap _ HS.out
    have hb0 : Below w3.heap.size w3 W0 := by rw [hW0]; exact below_drew1 ((Below.refl _ _).alloc (Nat.le_refl _) _)
    have hsl : s.size = (digs b m).length := by rw [size_nat HS.out, List.length_map]
    obtain ⟨n, hn⟩ : ∃ n, n = (digs b m).length := ⟨_, rfl⟩
    rw [hsl, ← hn]
    have hn0 : 0 < n := by rw [hn]; exact digs_pos b m hb2_
    have hn1 : n ≤ 480 := by rw [hn]; exact digs_len b m (8 * 60) hb2_ HML.out (by omega)
    have HNN := Lib.hid hn
    have HROW := Lib.hid hrow
    have HB4 := Lib.hid (HB3.out.trans (hb0.mono (by have := HB3.out.size; exact this)))
    have h3s : W1.heap.size ≤ w3.heap.size := HB3.out.size
    have HB0 := Lib.hid hb0
    clear hn hrow hb0 hsl hcap hW0 HS HML hcv
    go_cut [15, 16] from 48 to 62 (fun u v wx => ∃ cur, Digs b m cur ∧ IrRow wx w3.heap.size cap cur ∧ Below w3.heap.size w3 wx)
    case first =>
      by_cases hu : (bits .and .u8 (way : Int) 1 == 1) = true
      · go_wp2_with fail
        go_loopw [15, 16, 50] (fun _ _ kk W => ∃ (k : Nat) (cur : List Nat), k ≤ n ∧ kk = .int .i64 (k : Int) ∧ Digs b m cur ∧ (∀ j, k ≤ j → j < n → cur.getD j 0 = sgnOf ((digs b m).getD j 0)) ∧ IrRow W w3.heap.size cap cur ∧ Below w3.heap.size w3 W) (fun _ _ kk _ => n - (intOf kk).toNat)
        case atStart => exact ⟨0, _, Nat.zero_le _, rfl, Digs.start hb2_ hb36, fun j _ hj => by rw [HNN.out] at hj; simp [List.getD_eq_getElem?_getD, List.getElem?_eq_getElem hj], HROW.out, HB0.out⟩
        obtain ⟨k, cur, hk, rfl, hdg, hlow, hir, hbl⟩ := hrel
        have hcl : cur.length = n := by rw [hdg.1, HNN.out]
        by_cases hkl : k < n
        · have hcell := hir.cell k (by omega)
          have hfree := hir.free k (by omega)
          have hx := hdg.lt (cur.getD k 0) (by rw [List.getD_eq_getElem?_getD, List.getElem?_eq_getElem (by omega)]; simp)
          have hck := hlow k (Nat.le_refl _) hkl
          have HUP := Lib.hid (fun h97 => hdg.up (by omega) hck h97)
          have HSET := Lib.hid (hir.set k (cur.getD k 0 - 32) (by omega))
          have HDG := Lib.hid hdg
          have HLOW := Lib.hid hlow
          have HIR := Lib.hid hir
          have HBL := Lib.hid hbl
          have hi1 : (0 : Int) ≤ (k : Int) := by omega
          have hi2 : (k : Int) < (n : Int) := by omega
          clear hdg hlow hir hbl hck
          generalize cur.getD k 0 = x at *
          by_cases h97 : 97 ≤ x
          · have h97I : (97 : Int) ≤ (x : Int) := by omega
            have e : ((x - 32 : Nat) : Int) = (x : Int) - 32 := by omega
            have HE := Lib.hid e
            clear e h97
            go_wp2_with fail
            go_roundw
            case rel =>
              refine ⟨k + 1, cur.set k (x - 32), by omega, by go_num, HUP.out (by omega), fun j hj hjn => by rw [getD_set_ne (by omega)]; exact HLOW.out j (by omega) hjn, ?_, HBL.out.setCell (p := ⟨w3.heap.size, k, none⟩) (Nat.le_refl _) _⟩
              have := HSET.out
              rw [HE.out] at this
              exact this
            case measure => simp [intOf]; omega
          · have h97I : ¬ (97 : Int) ≤ (x : Int) := by omega
            clear h97
            go_wp2_with fail
            go_roundw
            case rel => exact ⟨k + 1, cur, by omega, by go_num, HDG.out, fun j hj hjn => HLOW.out j (by omega) hjn, HIR.out, HBL.out⟩
            case measure => simp [intOf]; omega
        · obtain rfl : k = n := by omega
          have HDG := Lib.hid hdg
          have HIR := Lib.hid hir
          have HBL := Lib.hid hbl
          clear hdg hlow hir hbl
          go_wp2_with fail
          go_meet
          exact ⟨cur, HDG.out, HIR.out, HBL.out⟩
      · have hu' : (bits .and .u8 (way : Int) 1 == 1) = false := by simpa using hu
        clear hu
        go_wp2_with fail
        go_meet
        exact ⟨_, Digs.start hb2_ hb36, HROW.out, HB0.out⟩
    case rest =>
    obtain ⟨cur, hdg, hir, hbl⟩ := hcut
    have HDG := Lib.hid hdg
    have HIR := Lib.hid hir
    have HBL := Lib.hid hbl
    have hcl : cur.length = n := by rw [hdg.1, HNN.out]
    clear hdg hir hbl HROW HB0
    go_upto_if 66 with fail
    obtain ⟨S, hS⟩ : ∃ S : Bool, S = (bits .and .u8 (way : Int) 2 == 2) := ⟨_, rfl⟩
    rw [← hS]
    clear hS
    go_cut [18] from 67 to 79 (fun u wx => ∃ cur2, IrRow wx w3.heap.size cap cur2 ∧ cur2.length = n ∧ ((S = false ∧ cur2 = cur) ∨ (S = true ∧ ∃ i, i < n ∧ cur2 = cur.set i (sgnOf b))) ∧ Below w3.heap.size w3 wx)
    case first =>
      cases S
      · go_wp2_with fail
        go_meet
        refine ⟨cur, HIR.out, hcl, ?_, HBL.out⟩
        simp
      · obtain ⟨j, hj⟩ : ∃ j : Nat, j = at_ % n := ⟨_, rfl⟩
        have hjn : j < n := by rw [hj]; exact Nat.mod_lt _ hn0
        have hjI : (at_ : Int) % (n : Int) = (j : Int) := by rw [hj]; rfl
        clear hj
        go_wp2_with fail
        rw [tabW_conv wc]
        have hct := tabW_cell wc b (by omega)
        have hbt := tabW_below wc
        have hir2 := HIR.out.below hbt HIR.out.lt
        have hbl2 := HBL.out.trans (hbt.mono HBL.out.size)
        have hwl : wc.heap.size < (tabW wc).heap.size := by simp [tabW]
        generalize tabW wc = WT at *
        have hcj := hir2.cell j (by omega)
        have hfj := hir2.free j (by omega)
        have hgl := hir2.lt
        have HIR2 := Lib.hid (hir2.set j (sgnOf b) (by omega))
        have HBL2 := Lib.hid (hbl2.setCell (p := ⟨w3.heap.size, j, none⟩) (Nat.le_refl _) (.int .u8 ((sgnOf b : Nat) : Int)))
        have hb37 : (b : Int) < 37 := by omega
        have hjn2 : (j : Int) < (n : Int) := by omega
        clear hir2 hbl2 hbt
        generalize sgnOf b = z at *
        generalize cur.getD j 0 = y at *
        go_wp2_with fail
        go_meet
        refine ⟨_, HIR2.out, by rw [List.length_set]; exact hcl, ?_, HBL2.out⟩
        right
        exact ⟨by simp, j, hjn, rfl⟩
    case rest =>
    obtain ⟨cur2, hir2, hcl2, hsp, hbl2⟩ := hcut
    have hlt2 : ∀ x ∈ cur2, x < 256 := by
      rcases hsp with ⟨_, rfl⟩ | ⟨_, j, hj, rfl⟩
      · exact HDG.out.lt
      · intro x hx
        rcases List.mem_or_eq_of_mem_set hx with h | h
        · exact HDG.out.lt x h
        · rw [h]; unfold sgnOf; split <;> omega
    have hcb := hir2.text hlt2
    have hbody := text_nat hlt2
    rw [hcl2] at hcb
    generalize (⟨(cur2.map UInt8.ofNat).toArray⟩ : ByteArray) = body at *
    obtain ⟨ds, ht, hd1, hd2, hbody0, hf⟩ := body_all hb2_ hb36 HLIM.out hn1 hn0 HDG.out hcl hcl2 hsp hbody
    have HT := Lib.hid ht
    have HD1 := Lib.hid hd1
    have HD2 := Lib.hid hd2
    have HF := Lib.hid hf
    have hbs : body.size = n := by rw [size_nat hbody, hcl2]
    have HBL2 := Lib.hid hbl2
    clear hsp hlt2 hbody ht hd1 hd2 hir2 hbl2 HIR HBL HDG hf hcl hcl2
    have hpf := pfx_at b (by omega)
    have hb37 : (b : Int) < 37 := by omega
    obtain ⟨pf, hpfe⟩ : ∃ pf, pf = pfxOf b := ⟨_, rfl⟩
    rw [← hpfe] at hpf
    have HPF := Lib.hid hpfe
    clear hpfe
    go_upto_region 20 with fail
    obtain ⟨WP, hWP⟩ : ∃ WP, WP = wc.alloc (.cells #[Value.string ⟨#[]⟩, .string ⟨#[]⟩, .string ⟨#[48, 98]⟩, .string ⟨#[]⟩, .string ⟨#[]⟩, .string ⟨#[]⟩, .string ⟨#[]⟩, .string ⟨#[]⟩, .string ⟨#[48, 111]⟩, .string ⟨#[]⟩, .string ⟨#[]⟩, .string ⟨#[]⟩, .string ⟨#[]⟩, .string ⟨#[]⟩, .string ⟨#[]⟩, .string ⟨#[]⟩, .string ⟨#[48, 120]⟩, .string ⟨#[]⟩, .string ⟨#[]⟩, .string ⟨#[]⟩, .string ⟨#[]⟩, .string ⟨#[]⟩, .string ⟨#[]⟩, .string ⟨#[]⟩, .string ⟨#[]⟩, .string ⟨#[]⟩, .string ⟨#[]⟩, .string ⟨#[]⟩, .string ⟨#[]⟩, .string ⟨#[]⟩, .string ⟨#[]⟩, .string ⟨#[]⟩, .string ⟨#[]⟩, .string ⟨#[]⟩, .string ⟨#[]⟩, .string ⟨#[]⟩, .string ⟨#[]⟩] 9) := ⟨_, rfl⟩
    rw [← hWP]
    have hbp : Below w3.heap.size w3 WP := by rw [hWP]; exact HBL2.out.alloc HBL2.out.size _
    have HBP := Lib.hid hbp
    clear hWP hbp HBL2 hcb hpf
    obtain ⟨Q, hQ⟩ : ∃ Q : Bool, Q = (decide (b = 2 ∨ b = 8 ∨ b = 16) && (bits .and .u8 (way : Int) 4 == 4) && !S) := ⟨_, rfl⟩
    have HQ := Lib.hid hQ
    clear hQ
    go_cut [97] from 87 to 97 (fun v wx => v = .bool Q ∧ wx = WP)
    case first =>
      by_cases hp : b = 2 ∨ b = 8 ∨ b = 16
      · have hem : pf.toList.isEmpty = false := not_empty (by rw [HPF.out, pfxOf_some hp]; omega)
        have hQ := HQ.out
        rw [decide_eq_true hp, Bool.true_and] at hQ
        by_cases h4 : (bits .and .u8 (way : Int) 4 == 4) = true
        · rw [h4, Bool.true_and] at hQ
          cases S
          · obtain rfl := hQ
            clear hp
            go_wp2_with fail
            go_meet
            exact ⟨rfl, rfl⟩
          · obtain rfl := hQ
            clear hp
            go_wp2_with fail
            go_meet
            exact ⟨rfl, rfl⟩
        · have h4' : (bits .and .u8 (way : Int) 4 == 4) = false := by simpa using h4
          rw [h4', Bool.false_and] at hQ
          obtain rfl := hQ
          clear hp h4
          go_wp2_with fail
          go_meet
          exact ⟨rfl, rfl⟩
      · have hQ := HQ.out
        rw [decide_eq_false hp, Bool.false_and, Bool.false_and] at hQ
        obtain rfl := hQ
        have hpf0 := HPF.out
        rw [pfxOf_none hp] at hpf0
        clear hp
        subst hpf0
        go_wp2_with fail
        go_meet
        exact ⟨rfl, rfl⟩
    case rest =>
    obtain ⟨rfl, rfl⟩ := hcut
    go_upto_if 97 with fail
    go_cut [19, 20] from 98 to 114 (fun s19 s20 wx => ∃ (T1 : ByteArray) (a y : Nat), s19 = .string T1 ∧ s20 = .int .i64 (a : Int) ∧ PfxTxt T1 a b body y ∧ T1.size ≤ 999999 ∧ a ≤ 36 ∧ wx = wc)
    case first =>
      cases Q
      · have hb10 : b = 10 ∨ ((b : Int) == 10) = false := by
          by_cases h : b = 10
          · exact .inl h
          · right; rw [beq_eq_false_iff_ne]; omega
        rcases hb10 with hb10 | hb10
        · have hbe : ((b : Int) == 10) = true := by rw [hb10]; rfl
          have HB10 := Lib.hid hb10
          clear hb10
          by_cases h8 : (bits .and .u8 (way : Int) 8 == 8) = true
          · cases S
            · go_wp2_with fail
              go_meet
              exact ⟨body, 0, _, rfl, rfl, pfx_none hbody0 (by omega) HF.out (.inr ⟨rfl, HB10.out⟩), by omega, by omega, rfl⟩
            · go_wp2_with fail
              go_meet
              exact ⟨body, b, _, rfl, rfl, pfx_none hbody0 (by omega) HF.out (.inl rfl), by omega, hb36, rfl⟩
          · have h8' : (bits .and .u8 (way : Int) 8 == 8) = false := by simpa using h8
            clear h8
            go_wp2_with fail
            go_meet
            exact ⟨body, b, _, rfl, rfl, pfx_none hbody0 (by omega) HF.out (.inl rfl), by omega, hb36, rfl⟩
        · go_wp2_with fail
          go_meet
          exact ⟨body, b, _, rfl, rfl, pfx_none hbody0 (by omega) HF.out (.inl rfl), by omega, hb36, rfl⟩
      · have hQ := HQ.out
        have hp : b = 2 ∨ b = 8 ∨ b = 16 := by
          by_cases hp : b = 2 ∨ b = 8 ∨ b = 16
          · exact hp
          · rw [decide_eq_false hp] at hQ; simp at hQ
        have hps : pf.size = 2 := by rw [HPF.out, pfxOf_some hp]
        have hml : pf.size + body.size ≤ maxLen := by simp [maxLen]; omega
        have HP := Lib.hid hp
        have HPS : Hid ((pf ++ body).size ≤ 999999) := Lib.hid (by rw [ByteArray.size_append]; omega)
        clear hp hQ
        by_cases h8 : (bits .and .u8 (way : Int) 8 == 8) = true
        · go_wp2_with fail
          go_meet
          exact ⟨pf ++ body, 0, 48, rfl, rfl, by rw [HPF.out]; exact pfx_some HP.out hbody0 (by omega) (.inr rfl), HPS.out, by omega, rfl⟩
        · have h8' : (bits .and .u8 (way : Int) 8 == 8) = false := by simpa using h8
          clear h8
          go_wp2_with fail
          go_meet
          exact ⟨pf ++ body, b, 48, rfl, rfl, by rw [HPF.out]; exact pfx_some HP.out hbody0 (by omega) (.inl rfl), HPS.out, hb36, rfl⟩
    case rest =>
    obtain ⟨T1, ask, y, rfl, rfl, hpx, hT1, hask, rfl⟩ := hcut
    have HPX := Lib.hid hpx
    have hkP : Blk wc w1.heap.size 24 [.bool n1, .slice a1 k1 c1] := (HKX.out.below HB3.out hWs).below HBP.out (by omega)
    have x0 := hkP.cell 0 (by simp)
    have x1 := hkP.cell 1 (by simp)
    have HKP := Lib.hid hkP
    have xl := hkP.lt
    clear hpx hkP HF HQ HPF hbody0
    go_upto_if 116 with fail
    go_cut [19] from 117 to 123 (fun s19 wx => ∃ (T : ByteArray) (x : Nat), s19 = .string T ∧ SgnTxt T n1 T1 x ∧ wx = wc)
    case first =>
      have hml : 1 + T1.size ≤ maxLen := by simp [maxLen]; omega
      have hm1 : (ByteArray.mk #[45]).size + T1.size ≤ maxLen := by have : (ByteArray.mk #[45]).size = 1 := rfl; omega
      have hm2 : (ByteArray.mk #[43]).size + T1.size ≤ maxLen := by have : (ByteArray.mk #[43]).size = 1 := rfl; omega
      cases n1
      · by_cases h16 : (bits .and .u8 (way : Int) 16 == 16) = true
        · go_wp2_with fail
          go_meet
          exact ⟨_, _, rfl, sgn_plus hT1, rfl⟩
        · have h16' : (bits .and .u8 (way : Int) 16 == 16) = false := by simpa using h16
          clear h16
          go_wp2_with fail
          go_meet
          exact ⟨_, _, rfl, sgn_none HPX.out HT.out, rfl⟩
      · go_wp2_with fail
        go_meet
        exact ⟨_, _, rfl, sgn_minus hT1, rfl⟩
    case rest =>
    obtain ⟨T, x, rfl, hsg, rfl⟩ := hcut
    have HSG := Lib.hid hsg
    clear hsg
    have HBX : Hid (Below w.heap.size w wc) := Lib.hid ((HBW.out.trans (HB3.out.mono HBW.out.size)).trans (HBP.out.mono (by have := HBW.out.size; omega)))
    have CI := Lib.hid (intRead_any T T1 body ask b x y n1 ds eP nP wc HSG.out HPX.out hask HT.out ((HG.out.below HBX.out).more HBX.out.size))
    have C5 : Hid (∀ W, Below wc.heap.size wc W → Calls Tryz.prog 8 #[.string ⟨#[53]⟩, .int .i64 10] W (IrPost false 10 [5] 1 W)) := Lib.hid (fun W h => five_any eP nP W ((HG.out.below (HBX.out.trans (h.mono HBX.out.size))).more (Nat.le_trans HBX.out.size h.size)))
    have HSP : Hid (∀ W, Below wc.heap.size wc W → Sp W W.heap.size (.agg #[.bool n1, .slice a1 k1 c1]) i) := Lib.hid (fun W h => by
      have hb : Below W1.heap.size W1 W := (HB3.out.trans (HBP.out.mono h3s)).trans (h.mono (by have := HB3.out.size; have := HBP.out.size; omega))
      exact ⟨_, by rw [HN1.out], by rw [← HM.out]; exact (HX1.out.below hb).more hb.size⟩)
    have HLI : Hid (i.natAbs < lim) := Lib.hid (by rw [← HM.out]; exact HLIM.out)
    clear HSG HPX HG x0 x1 HX1 HKX HB3 HB4 HBP HBW
    go_wp2_with fail
    refine CI.out.mono ?_
    rintro e w5 ⟨hb5, hc5⟩
    have HB5 := Lib.hid hb5
    have hs5 : wc.heap.size ≤ w5.heap.size := hb5.size
    clear hb5 CI
    rcases hc5 with ⟨hl, ng, av, kv, cv, rfl, hva⟩ | ⟨hl, rfl⟩
    · have hS : S = false := by
        cases S
        · rfl
        · exact absurd (HD2.out rfl) (by omega)
      subst hS
      have hsi : signI n1 (hval b ds) = i := by
        rw [(HD1.out rfl).1, digs_val b m hb2_, HN1.out, HM.out]
        unfold signI
        by_cases h : i < 0
        · rw [decide_eq_true h]; simp; omega
        · rw [decide_eq_false h]; simp; omega
      rw [hsi] at hva
      have HVA := Lib.hid hva
      obtain ⟨W5, hW5⟩ : ∃ W5, W5 = w5.alloc (.cells #[.int .i64 2, .bool ng, .slice av kv cv, .int .u64 0, .string ByteArray.empty, .slice none 0 0] 28) := ⟨_, rfl⟩
      have hb6 : Below wc.heap.size wc W5 := by rw [hW5]; exact HB5.out.alloc HB5.out.size _
      have hk5 : Blk W5 w5.heap.size 28 [.int .i64 2, .bool ng, .slice av kv cv, .int .u64 0, .string ByteArray.empty, .slice none 0 0] := by rw [hW5]; exact Blk.new w5 _ [.int .i64 2, .bool ng, .slice av kv cv, .int .u64 0, .string ByteArray.empty, .slice none 0 0]
      have hb56 : Below w5.heap.size w5 W5 := by rw [hW5]; exact (Below.refl _ _).alloc (Nat.le_refl _) _
      have CF := Lib.hid (C5.out W5 hb6)
      have HK5 := Lib.hid hk5; have HB6 := Lib.hid hb6; have HB56 := Lib.hid hb56
      have hl5 := hk5.lt
      clear hva hsi hk5 hb6 hb56 HD1 HD2 hl C5
      go_wp2_with fail
      rw [← hW5]
      clear hW5
      refine CF.out.mono ?_
      rintro e w6 ⟨hb7, hc6⟩
      obtain ⟨nf, af, kf, cf, rfl, hvf⟩ : ∃ ng a k c, e = .returned (.tuple #[.agg #[.int .i64 2, .bool ng, .slice a k c, .int .u64 0, .string ByteArray.empty, .slice none 0 0], .bool true]) ∧ Va w6 w6.heap.size (.agg #[.int .i64 2, .bool ng, .slice a k c, .int .u64 0, .string ByteArray.empty, .slice none 0 0]) 5 := by
        rcases hc6 with ⟨_, h⟩ | ⟨h, _⟩
        · exact h
        · simp at h
      have hs6 : W5.heap.size ≤ w6.heap.size := hb7.size
      obtain ⟨W6, hW6⟩ : ∃ W6, W6 = w6.alloc (.cells #[.int .i64 2, .bool nf, .slice af kf cf, .int .u64 0, .string ByteArray.empty, .slice none 0 0] 28) := ⟨_, rfl⟩
      have hb66 : Below w6.heap.size w6 W6 := by rw [hW6]; exact (Below.refl _ _).alloc (Nat.le_refl _) _
      have hkF : Blk W6 w6.heap.size 28 [.int .i64 2, .bool nf, .slice af kf cf, .int .u64 0, .string ByteArray.empty, .slice none 0 0] := by rw [hW6]; exact Blk.new w6 _ [.int .i64 2, .bool nf, .slice af kf cf, .int .u64 0, .string ByteArray.empty, .slice none 0 0]
      have hb57 : Below W5.heap.size W5 W6 := hb7.trans (hb66.mono hb7.size)
      have hkV : Blk W6 w5.heap.size 28 [.int .i64 2, .bool ng, .slice av kv cv, .int .u64 0, .string ByteArray.empty, .slice none 0 0] := HK5.out.below hb57 hl5
      have hbw6 : Below wc.heap.size wc W6 := HB6.out.trans (hb57.mono HB6.out.size)
      have hkX : Blk W6 w1.heap.size 24 [.bool n1, .slice a1 k1 c1] := HKP.out.below hbw6 xl
      have KEEP : Hid (∀ W, Below W6.heap.size W6 W → _ ∧ _ ∧ _ ∧ _) := Lib.hid (fun W h => ⟨val_cells2 (hkV.below h hkV.lt), val_cells2 (hkF.below h hkF.lt), (hkX.below h hkX.lt).cell 0 (by simp), (hkX.below h hkX.lt).cell 1 (by simp)⟩)
      have ISV : Hid (∀ W, Below W6.heap.size W6 W → Calls Tryz.prog 9 #[.agg #[.int .i64 2, .bool ng, .slice av kv cv, .int .u64 0, .string ByteArray.empty, .slice none 0 0], .agg #[.bool n1, .slice a1 k1 c1]] W fun e w' => e = .returned (.bool true) ∧ Below W6.heap.size W6 w') := Lib.hid (fun W h => by
        have g : Below w5.heap.size w5 W := (HB56.out.trans (hb57.mono HB56.out.size)).trans (h.mono (by have := HB56.out.size; have := hb66.size; omega))
        have g2 : Below wc.heap.size wc W := hbw6.trans (h.mono hbw6.size)
        refine (is_any i _ _ W ((HVA.out.below g).more g.size) (HSP.out W g2) HLI.out).mono ?_
        rintro e w' ⟨rfl, hb⟩
        exact ⟨rfl, h.trans (hb.mono h.size)⟩)
      have IS5 : Hid (∀ W v, Below W6.heap.size W6 W → Sp W W.heap.size v 5 → Calls Tryz.prog 9 #[.agg #[.int .i64 2, .bool nf, .slice af kf cf, .int .u64 0, .string ByteArray.empty, .slice none 0 0], v] W fun e w' => e = .returned (.bool true) ∧ Below W6.heap.size W6 w') := Lib.hid (fun W v h hv => by
        have g : Below w6.heap.size w6 W := hb66.trans (h.mono hb66.size)
        refine (is_any 5 _ _ W ((hvf.below g).more g.size) hv (by exact lim5)).mono ?_
        rintro e w' ⟨rfl, hb⟩
        exact ⟨rfl, h.trans (hb.mono h.size)⟩)
      have SM : Hid (∀ W, Below W6.heap.size W6 W → Calls Tryz.prog 10 #[.int .i64 5] W fun e w' => ∃ n a k c, e = .returned (.agg #[.bool n, .slice a k c]) ∧ Sp w' w'.heap.size (.agg #[.bool n, .slice a k c]) 5 ∧ Below W6.heap.size W6 w') := Lib.hid (fun W h => by
        refine (small_any 5 W (by omega) (by omega)).mono ?_
        rintro e w' ⟨v, rfl, hsp, hb⟩
        obtain ⟨n, a, k, c, rfl⟩ := hsp.form
        exact ⟨n, a, k, c, rfl, hsp, h.trans (hb.mono h.size)⟩)
      have FIN : Hid (∀ W, Below W6.heap.size W6 W → Below w.heap.size w W) := Lib.hid (fun W h => HBX.out.trans ((hbw6.trans (h.mono hbw6.size)).mono HBX.out.size))
      clear hb7 hc6 hb66 hkF hb57 hkV hbw6 hkX hvf HVA HSP HB6 HB56 HK5 HKP CF
      go_wp2_with fail
      rw [← hW6]
      clear hW6
      have HB : Hid (Below W6.heap.size W6 W6) := Below.refl _ _
      have HD : Hid (Below W6.heap.size W6 W6.drew) := (Below.refl _ _).drew
      obtain ⟨⟨p0, p1, p2, p3, p4, p5⟩, ⟨r0, r1, r2, r3, r4, r5⟩, x0, x1⟩ := KEEP.out _ HB.out
      go_region_held3 (fun w' => (w'.cell? ⟨w5.heap.size, 0, none⟩ = some (.int .i64 2) ∧ w'.cell? ⟨w5.heap.size, 1, none⟩ = some (.bool ng) ∧ w'.cell? ⟨w5.heap.size, 2, none⟩ = some (.slice av kv cv) ∧ w'.cell? ⟨w5.heap.size, 3, none⟩ = some (.int .u64 0) ∧ w'.cell? ⟨w5.heap.size, 4, none⟩ = some (.string ByteArray.empty) ∧ w'.cell? ⟨w5.heap.size, 5, none⟩ = some (.slice none 0 0)) ∧ (w'.cell? ⟨w6.heap.size, 0, none⟩ = some (.int .i64 2) ∧ w'.cell? ⟨w6.heap.size, 1, none⟩ = some (.bool nf) ∧ w'.cell? ⟨w6.heap.size, 2, none⟩ = some (.slice af kf cf) ∧ w'.cell? ⟨w6.heap.size, 3, none⟩ = some (.int .u64 0) ∧ w'.cell? ⟨w6.heap.size, 4, none⟩ = some (.string ByteArray.empty) ∧ w'.cell? ⟨w6.heap.size, 5, none⟩ = some (.slice none 0 0)) ∧ (w'.cell? ⟨w1.heap.size, 0, none⟩ = some (.bool n1) ∧ w'.cell? ⟨w1.heap.size, 1, none⟩ = some (.slice a1 k1 c1))) (refine ⟨⟨?_, ?_, ?_, ?_, ?_, ?_⟩, ⟨?_, ?_, ?_, ?_, ?_, ?_⟩, ⟨?_, ?_⟩⟩ <;> assumption) (first
        | (go_at_call 9; (with_reducible refine (ISV.out _ (by first | exact HB.out | (with_unfolding_all exact HD.out))).mono ?_); rintro e w7 ⟨rfl, hb⟩; have HB := Lib.hid hb; obtain ⟨⟨p0, p1, p2, p3, p4, p5⟩, ⟨r0, r1, r2, r3, r4, r5⟩, x0, x1⟩ := KEEP.out _ hb; clear hb)
        | (go_at_call 10; (with_reducible refine (SM.out _ (by first | exact HB.out | (with_unfolding_all exact HD.out))).mono ?_); rintro e w8 ⟨n8, a8, k8, c8, rfl, hsp, hb⟩; have HS5 := Lib.hid hsp; have HB := Lib.hid hb; obtain ⟨⟨p0, p1, p2, p3, p4, p5⟩, ⟨r0, r1, r2, r3, r4, r5⟩, x0, x1⟩ := KEEP.out _ hb; clear hb hsp)
        | (go_at_call 9; (with_reducible refine (IS5.out _ _ HB.out HS5.out).mono ?_); rintro e w9 ⟨rfl, hb⟩; have HB := Lib.hid hb; obtain ⟨⟨p0, p1, p2, p3, p4, p5⟩, ⟨r0, r1, r2, r3, r4, r5⟩, x0, x1⟩ := KEEP.out _ hb; clear hb))
      all_goals
        go_wp2_with fail
        go_ret
        exact ⟨rfl, FIN.out _ HB.out⟩
    · have hS : S = true := by
        cases S
        · exact absurd (HD1.out rfl).2 (by omega)
        · rfl
      subst hS
      obtain ⟨W5, hW5⟩ : ∃ W5, W5 = w5.alloc (.cells #[.int .i64 0, .bool false, .slice none 0 0, .int .u64 0, .string ByteArray.empty, .slice none 0 0] 28) := ⟨_, rfl⟩
      have hb6 : Below wc.heap.size wc W5 := by rw [hW5]; exact HB5.out.alloc HB5.out.size _
      have CF := Lib.hid (C5.out W5 hb6)
      have HB6 := Lib.hid hb6
      clear hb6 HD1 HD2 hl C5
      go_wp2_with fail
      (first | rw [← hW5] | skip)
      generalize hW5' : w5.alloc _ = W5' at *
      obtain rfl : W5 = W5' := by rw [hW5, ← hW5']
      clear hW5 hW5'
      refine CF.out.mono ?_
      rintro e w6 ⟨hb7, hc6⟩
      obtain ⟨nf, af, kf, cf, rfl, hvf⟩ : ∃ ng a k c, e = .returned (.tuple #[.agg #[.int .i64 2, .bool ng, .slice a k c, .int .u64 0, .string ByteArray.empty, .slice none 0 0], .bool true]) ∧ Va w6 w6.heap.size (.agg #[.int .i64 2, .bool ng, .slice a k c, .int .u64 0, .string ByteArray.empty, .slice none 0 0]) 5 := by
        rcases hc6 with ⟨_, h⟩ | ⟨h, _⟩
        · exact h
        · simp at h
      obtain ⟨W6, hW6⟩ : ∃ W6, W6 = w6.alloc (.cells #[.int .i64 2, .bool nf, .slice af kf cf, .int .u64 0, .string ByteArray.empty, .slice none 0 0] 28) := ⟨_, rfl⟩
      have hb66 : Below w6.heap.size w6 W6 := by rw [hW6]; exact (Below.refl _ _).alloc (Nat.le_refl _) _
      have hkF : Blk W6 w6.heap.size 28 [.int .i64 2, .bool nf, .slice af kf cf, .int .u64 0, .string ByteArray.empty, .slice none 0 0] := by rw [hW6]; exact Blk.new w6 _ [.int .i64 2, .bool nf, .slice af kf cf, .int .u64 0, .string ByteArray.empty, .slice none 0 0]
      have hb57 : Below W5.heap.size W5 W6 := hb7.trans (hb66.mono hb7.size)
      have hbw6 : Below wc.heap.size wc W6 := HB6.out.trans (hb57.mono HB6.out.size)
      have KEEP : Hid (∀ W, Below W6.heap.size W6 W → _) := Lib.hid (fun W h => val_cells2 (hkF.below h hkF.lt))
      have IS5 : Hid (∀ W v, Below W6.heap.size W6 W → Sp W W.heap.size v 5 → Calls Tryz.prog 9 #[.agg #[.int .i64 2, .bool nf, .slice af kf cf, .int .u64 0, .string ByteArray.empty, .slice none 0 0], v] W fun e w' => e = .returned (.bool true) ∧ Below W6.heap.size W6 w') := Lib.hid (fun W v h hv => by
        have g : Below w6.heap.size w6 W := hb66.trans (h.mono hb66.size)
        refine (is_any 5 _ _ W ((hvf.below g).more g.size) hv (by exact lim5)).mono ?_
        rintro e w' ⟨rfl, hb⟩
        exact ⟨rfl, h.trans (hb.mono h.size)⟩)
      have SM : Hid (∀ W, Below W6.heap.size W6 W → Calls Tryz.prog 10 #[.int .i64 5] W fun e w' => ∃ n a k c, e = .returned (.agg #[.bool n, .slice a k c]) ∧ Sp w' w'.heap.size (.agg #[.bool n, .slice a k c]) 5 ∧ Below W6.heap.size W6 w') := Lib.hid (fun W h => by
        refine (small_any 5 W (by omega) (by omega)).mono ?_
        rintro e w' ⟨v, rfl, hsp, hb⟩
        obtain ⟨n, a, k, c, rfl⟩ := hsp.form
        exact ⟨n, a, k, c, rfl, hsp, h.trans (hb.mono h.size)⟩)
      have FIN : Hid (∀ W, Below W6.heap.size W6 W → Below w.heap.size w W) := Lib.hid (fun W h => HBX.out.trans ((hbw6.trans (h.mono hbw6.size)).mono HBX.out.size))
      clear hb7 hc6 hb66 hkF hb57 hbw6 hvf HSP HB6 HKP CF
      go_wp2_with fail
      rw [← hW6]
      clear hW6
      have HB : Hid (Below W6.heap.size W6 W6.drew) := Lib.hid (Below.refl _ _).drew
      obtain ⟨r0, r1, r2, r3, r4, r5⟩ := KEEP.out _ HB.out
      go_region_with (first
        | (go_at_call 10; (with_reducible refine (SM.out _ HB.out).mono ?_); rintro e w8 ⟨n8, a8, k8, c8, rfl, hsp, hb⟩; have HS5 := Lib.hid hsp; have HB := Lib.hid hb; obtain ⟨r0, r1, r2, r3, r4, r5⟩ := KEEP.out _ hb; clear hb hsp)
        | (go_at_call 9; (with_reducible refine (IS5.out _ _ HB.out HS5.out).mono ?_); rintro e w9 ⟨rfl, hb⟩; have HB := Lib.hid hb; obtain ⟨r0, r1, r2, r3, r4, r5⟩ := KEEP.out _ hb; clear hb))
      all_goals
        go_wp2_with fail
        go_ret
        exact ⟨rfl, FIN.out _ HB.out⟩
  · clear ha hms hg
    go_enter Tryz.func3, Tryz.ntmps3
    go_wp2_with fail
    go_ret
    exact ⟨rfl, Below.refl _ _⟩
end Go.Proofs.YtbfgjaammmpcdaaGreatDoor
