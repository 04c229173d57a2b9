/- spec.Ascii: the first 60 bytes of a text, each below 128 (printed by genascii.py). -/
import Derived.Test.YtoggalnjjhcmkaaGreatMem
import Derived.Test.YtoggalnjjhcmkaaGreatProg
import Derived.Laws.IdiomStrings
import Derived.Laws.BytesArg
namespace Go.Proofs.YtoggalnjjhcmkaaGreat
open Go.RowKit
set_option linter.unusedVariables false
set_option linter.unusedSimpArgs false
set_option maxRecDepth 100000

/-- a block that bears the mark behind its last cell -/
def BlkM (w : World) (b : Nat) (e : TypeId) (L : List Value) : Prop := w.heap[b]? = some (.cells L.toArray e (L.length, L.length + 1))
theorem BlkM.cell {w : World} {b : Nat} {e : TypeId} {L : List Value} (h : BlkM w b e L) (i : Nat) (hi : i < L.length) : w.cell? ⟨b, i, none⟩ = some (L.getD i undef) := by
  unfold BlkM at h
  simp [World.cell?, h, List.getElem?_eq_getElem hi]
theorem BlkM.free {w : World} {b : Nat} {e : TypeId} {L : List Value} (h : BlkM w b e L) (i : Nat) (hi : i < L.length) : w.frozen? ⟨b, i, none⟩ = false := by
  unfold BlkM at h
  simp [World.frozen?, h]
  omega
theorem BlkM.set {w : World} {b : Nat} {e : TypeId} {L : List Value} (h : BlkM w b e L) (i : Nat) (u : Value) : BlkM (w.setCell ⟨b, i, none⟩ u) b e (L.set i u) := by
  unfold BlkM at h ⊢
  simp [World.setCell, Array.getElem?_modify, h]
theorem below_drew1 {b : Nat} {w w' : World} (h : Below b w w') : Below b w w'.drew := ⟨h.os, h.tape, h.output, h.size, h.block⟩
theorem add_zero0 (b i : Nat) : (⟨b, 0, none⟩ : Addr).add i = ⟨b, i, none⟩ := by
  unfold Addr.add
  by_cases h : i = 0
  · subst h; simp
  · simp [h]

def low7 (b : UInt8) : UInt8 := b &&& 127
theorem low7_lt (b : UInt8) : (low7 b).toNat < 128 := by
  unfold low7
  have : (b &&& 127).toNat = b.toNat &&& 127 := by simp
  rw [this]
  exact Nat.lt_of_le_of_lt Nat.and_le_right (by omega)
theorem low7_bits (b : UInt8) : bits .and .u8 (b.toNat : Int) 127 = ((low7 b).toNat : Int) := by
  have h : ∀ n : Nat, n < 256 → bits .and .u8 (n : Int) 127 = ((n &&& 127 : Nat) : Int) := by decide +kernel
  rw [h _ b.toNat_lt]
  unfold low7
  simp
/-- the text that Ascii makes -/
def asc (s : ByteArray) : ByteArray := ⟨((s.data.toList.take 60).map low7).toArray⟩
theorem asc_size (s : ByteArray) : (asc s).size ≤ 60 := by
  unfold asc
  show (((s.data.toList.take 60).map low7).toArray).size ≤ 60
  simp; omega
/-- the row when k bytes are done -/
def ascRow (l : List UInt8) (k : Nat) (z : List Value) : List Value := (l.take k).map (fun b => Value.int .u8 ((low7 b).toNat : Int)) ++ ((l.drop k).map (fun b => Value.int .u8 (b.toNat : Int)) ++ z)
theorem ascRow_length (l : List UInt8) (k : Nat) (z : List Value) (hk : k ≤ l.length) : (ascRow l k z).length = l.length + z.length := by simp [ascRow]; omega
theorem ascRow_getD (l : List UInt8) (k : Nat) (z : List Value) (hk : k < l.length) : (ascRow l k z).getD k undef = .int .u8 (l[k].toNat : Int) := by
  unfold ascRow
  rw [List.drop_eq_getElem_cons hk, List.getD_eq_getElem?_getD, List.getElem?_append_right (by simp; omega), List.map_cons, List.cons_append]
  simp [Nat.min_eq_left (Nat.le_of_lt hk)]
theorem ascRow_getD' (l : List UInt8) (k : Nat) (z : List Value) (hk : l.length ≤ k) {j : Nat} (hj : j < l.length) : (ascRow l k z).getD j undef = .int .u8 ((low7 l[j]).toNat : Int) := by
  unfold ascRow
  rw [List.take_of_length_le hk, List.getD_eq_getElem?_getD, List.getElem?_append_left (by simpa using hj)]
  simp [hj]
theorem ascRow_set (l : List UInt8) (k : Nat) (z : List Value) (hk : k < l.length) : (ascRow l k z).set k (.int .u8 ((low7 l[k]).toNat : Int)) = ascRow l (k + 1) z := by
  unfold ascRow
  rw [List.drop_eq_getElem_cons hk, List.set_append_right _ _ (by simp; omega), List.map_cons, List.cons_append]
  have e : k - ((l.take k).map (fun b => Value.int .u8 ((low7 b).toNat : Int))).length = 0 := by simp; omega
  rw [e, List.set_cons_zero, List.take_succ_eq_append_getElem hk]
  simp only [List.map_append, List.map_cons, List.map_nil, List.append_assoc, List.cons_append, List.nil_append]
def AscRel (l : List UInt8) (n cap : Nat) (w : World) (i : Value) (wr : World) : Prop :=
  ∃ k : Nat, k ≤ n ∧ i = .int .i64 (k : Int) ∧ BlkM wr w.heap.size 5 (ascRow l k (List.replicate (cap - n) (.int .u8 0))) ∧ Below w.heap.size w wr
set_option maxHeartbeats 1600000 in
theorem ascii_any (s : ByteArray) (w : World) (hs : s.size ≤ 2147483647) :
    Calls Tryz.prog 20 #[.string s] w fun e w' => e = .returned (.string (asc s)) ∧ Below w.heap.size w w' := by
  have hcv := fun (W : World) (t : ByteArray) => run_bytes_of_string (P := Tryz.prog) W 9 22 5 t Tryz.underlying9 Tryz.underlying22 Tryz.underlying5
  by_cases h60 : s.size ≤ 60
  · skip
    have htl : (s).data.toList.length = s.size := by simp
    have hres : asc s = ⟨(((s).data.toList).map low7).toArray⟩ := by unfold asc; rw [List.take_of_length_le (by simpa using h60)]
    obtain ⟨l, hl⟩ : ∃ l, l = (s).data.toList := ⟨_, rfl⟩
    rw [← hl] at htl hres
    rw [hres]
    obtain ⟨cap, hcap⟩ : ∃ cap, cap = grownCap w s.size 0 5 := ⟨_, rfl⟩
    obtain ⟨W0, hW0⟩ : ∃ W0, W0 = (w.alloc (.cells (bytesRow (s) cap) 5 ((bytesRow (s) cap).size, (bytesRow (s) cap).size + 1))).drew := ⟨_, rfl⟩
    have hsz : (s).size = s.size := by first | rfl | (rw [← htl, hl]; simp)
    have hrow : (bytesRow (s) cap).toList = ascRow l 0 (List.replicate (cap - s.size) (.int .u8 0)) := by
      rw [bytesRow, hsz]; simp [ascRow, hl]
    have hblk : BlkM W0 w.heap.size 5 (ascRow l 0 (List.replicate (cap - s.size) (.int .u8 0))) := by
      rw [hW0, ← hrow]; unfold BlkM
      have e : (bytesRow (s) cap).toList.length = (bytesRow (s) cap).size := by simp
      rw [e, Array.toArray_toList]
      exact heap_alloc_new w _
    have hb0 : Below w.heap.size w W0 := by rw [hW0]; exact below_drew1 ((Below.refl _ _).alloc (Nat.le_refl _) _)
    have START : Hid (AscRel l s.size cap w (.int .i64 0) W0) := Lib.hid ⟨0, Nat.zero_le _, rfl, hblk, hb0⟩
    have HL := Lib.hid htl
    have hn : s.size ≤ 2147483647 := by omega
    clear hl htl hres hrow hblk hb0 hsz
    go_enter Tryz.func20, Tryz.ntmps20
    go_wp2_with fail
    rw [← hcap, ← hW0]
    clear hcap hW0 hcv
    go_loopw [13] (AscRel l s.size cap w) (fun i _ => s.size - (intOf i).toNat)
    case atStart => exact START.out
    case round =>
      obtain ⟨k, hk, rfl, hbk, hbl⟩ := hrel
      have HK := Lib.hid hbk; have HB := Lib.hid hbl
      clear hbk hbl START
      by_cases hlt : k < s.size
      · have hkl : k < l.length := by rw [HL.out]; exact hlt
        have hrl : (ascRow l k (List.replicate (cap - s.size) (.int .u8 0))).length = s.size + (cap - s.size) := by rw [ascRow_length _ _ _ (by omega), HL.out]; simp
        have c0 := HK.out.cell k (by omega)
        rw [ascRow_getD _ _ _ hkl] at c0
        have f0 := HK.out.free k (by omega)
        have HK2 := Lib.hid (HK.out.set k (.int .u8 ((low7 l[k]).toNat : Int)))
        have HN : Hid (AscRel l s.size cap w (.int .i64 ((k : Int) + 1)) (wr.setCell ⟨w.heap.size, k, none⟩ (.int .u8 ((low7 l[k]).toNat : Int)))) := Lib.hid ⟨k + 1, hlt, by go_num, by have := HK2.out; rwa [ascRow_set _ _ _ hkl] at this, HB.out.setCell (Nat.le_refl _) _⟩
        have hx1 : (0 : Int) ≤ (k : Int) := by omega
        have hx2 : (k : Int) < (s.size : Int) := by omega
        have hand : bits .and .u8 (l[k].toNat : Int) 127 = ((low7 l[k]).toNat : Int) := low7_bits _
        clear hrl HK2
        go_wp2_with fail
        go_roundw
        case rel => first | exact HN.out | ((repeat apply Exists.intro); exact ⟨HN.out, rfl⟩)
        case measure => simp [intOf]; omega
      · obtain rfl : k = s.size := by omega
        have hcb := run_convert_bytes_back (P := Tryz.prog) wr 22 9 5 ⟨w.heap.size, 0, none⟩ cap (l.map low7) Tryz.underlying22 Tryz.underlying5 Tryz.underlying9 (by
          intro j hj
          have hj' : j < l.length := by simpa using hj
          have hlen := HL.out
          rw [add_zero0, HK.out.cell j (by rw [ascRow_length _ _ _ (by omega)]; omega), ascRow_getD' _ _ _ (by omega) hj']
          simp)
        rw [List.length_map, HL.out] at hcb
        go_wp2_with fail
        go_ret
        exact ⟨rfl, HB.out⟩
  · have e60 : min 60 s.size = 60 := by omega
    have htl : (s.extract 0 60).data.toList.length = 60 := by (first | (simp; done) | (simp; omega) | omega)
    have hres : asc s = ⟨(((s.extract 0 60).data.toList).map low7).toArray⟩ := by unfold asc; congr 4; simp
    obtain ⟨l, hl⟩ : ∃ l, l = (s.extract 0 60).data.toList := ⟨_, rfl⟩
    rw [← hl] at htl hres
    rw [hres]
    obtain ⟨cap, hcap⟩ : ∃ cap, cap = grownCap w 60 0 5 := ⟨_, rfl⟩
    obtain ⟨W0, hW0⟩ : ∃ W0, W0 = (w.alloc (.cells (bytesRow (s.extract 0 60) cap) 5 ((bytesRow (s.extract 0 60) cap).size, (bytesRow (s.extract 0 60) cap).size + 1))).drew := ⟨_, rfl⟩
    have hsz : (s.extract 0 60).size = 60 := by first | rfl | (rw [← htl, hl]; simp)
    have hrow : (bytesRow (s.extract 0 60) cap).toList = ascRow l 0 (List.replicate (cap - 60) (.int .u8 0)) := by
      rw [bytesRow, hsz]; simp [ascRow, hl]
    have hblk : BlkM W0 w.heap.size 5 (ascRow l 0 (List.replicate (cap - 60) (.int .u8 0))) := by
      rw [hW0, ← hrow]; unfold BlkM
      have e : (bytesRow (s.extract 0 60) cap).toList.length = (bytesRow (s.extract 0 60) cap).size := by simp
      rw [e, Array.toArray_toList]
      exact heap_alloc_new w _
    have hb0 : Below w.heap.size w W0 := by rw [hW0]; exact below_drew1 ((Below.refl _ _).alloc (Nat.le_refl _) _)
    have START : Hid (AscRel l 60 cap w (.int .i64 0) W0) := Lib.hid ⟨0, Nat.zero_le _, rfl, hblk, hb0⟩
    have HL := Lib.hid htl
    have hn : 60 ≤ 2147483647 := by omega
    clear hl htl hres hrow hblk hb0 hsz
    go_enter Tryz.func20, Tryz.ntmps20
    go_wp2_with fail
    rw [← hcap, ← hW0]
    clear hcap hW0 hcv
    go_loopw [13] (AscRel l 60 cap w) (fun i _ => 60 - (intOf i).toNat)
    case atStart => exact START.out
    case round =>
      obtain ⟨k, hk, rfl, hbk, hbl⟩ := hrel
      have HK := Lib.hid hbk; have HB := Lib.hid hbl
      clear hbk hbl START
      by_cases hlt : k < 60
      · have hkl : k < l.length := by rw [HL.out]; exact hlt
        have hrl : (ascRow l k (List.replicate (cap - 60) (.int .u8 0))).length = 60 + (cap - 60) := by rw [ascRow_length _ _ _ (by omega), HL.out]; simp
        have c0 := HK.out.cell k (by omega)
        rw [ascRow_getD _ _ _ hkl] at c0
        have f0 := HK.out.free k (by omega)
        have HK2 := Lib.hid (HK.out.set k (.int .u8 ((low7 l[k]).toNat : Int)))
        have HN : Hid (AscRel l 60 cap w (.int .i64 ((k : Int) + 1)) (wr.setCell ⟨w.heap.size, k, none⟩ (.int .u8 ((low7 l[k]).toNat : Int)))) := Lib.hid ⟨k + 1, hlt, by go_num, by have := HK2.out; rwa [ascRow_set _ _ _ hkl] at this, HB.out.setCell (Nat.le_refl _) _⟩
        have hx1 : (0 : Int) ≤ (k : Int) := by omega
        have hx2 : (k : Int) < (60 : Int) := by omega
        have hand : bits .and .u8 (l[k].toNat : Int) 127 = ((low7 l[k]).toNat : Int) := low7_bits _
        clear hrl HK2
        go_wp2_with fail
        go_roundw
        case rel => first | exact HN.out | ((repeat apply Exists.intro); exact ⟨HN.out, rfl⟩)
        case measure => simp [intOf]; omega
      · obtain rfl : k = 60 := by omega
        have hcb := run_convert_bytes_back (P := Tryz.prog) wr 22 9 5 ⟨w.heap.size, 0, none⟩ cap (l.map low7) Tryz.underlying22 Tryz.underlying5 Tryz.underlying9 (by
          intro j hj
          have hj' : j < l.length := by simpa using hj
          have hlen := HL.out
          rw [add_zero0, HK.out.cell j (by rw [ascRow_length _ _ _ (by omega)]; omega), ascRow_getD' _ _ _ (by omega) hj']
          simp)
        rw [List.length_map, HL.out] at hcb
        go_wp2_with fail
        go_ret
        exact ⟨rfl, HB.out⟩
end Go.Proofs.YtoggalnjjhcmkaaGreat
