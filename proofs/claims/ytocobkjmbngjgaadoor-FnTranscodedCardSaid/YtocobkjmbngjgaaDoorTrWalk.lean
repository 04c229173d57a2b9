/- spec.Decoded and utf8Transcode: each gives the text that the bytes are, with U+FFFD for each byte that is no part of a character. -/
import Derived.Test.YtocobkjmbngjgaaDoorTrMath
import Derived.Test.YtocobkjmbngjgaaDoorShelf
import Derived.WalkKit
import Derived.BigCall
import Derived.Below
import Derived.Lib.Hide
import Derived.Lib.TrimUEq
import Derived.Laws.Cover4
import Derived.Shelf.Unicode.ValidAny
namespace Go.Proofs.YtocobkjmbngjgaaDoor
open Go.RowKit
set_option linter.unusedVariables false
set_option linter.unusedSimpArgs false
set_option maxRecDepth 1000000

theorem dataL_nil {s : ByteArray} : s.data.toList ≠ [] ↔ 0 < s.size := by
  rw [Lib.size_eq, List.length_pos_iff]
theorem extract_data (s : ByteArray) (n : Nat) : (s.extract n s.size).data.toList = s.data.toList.drop n := by
  simp only [ByteArray.data_extract, Array.toList_extract, List.extract_eq_take_drop]
  exact List.take_of_length_le (by rw [List.length_drop, Lib.size_eq]; exact Nat.le_refl _)
theorem append_data (a b : ByteArray) : (a ++ b).data.toList = a.data.toList ++ b.data.toList := by
  simp [ByteArray.data_append]
theorem enc_le (r : Int) : (Lib.encodeRune r).length ≤ 4 := by
  have := (Lib.encodeRuneZ_length r).2
  simpa [Lib.encodeRune] using this
theorem data_mk (l : List UInt8) (s : ByteArray) (h : s.data.toList = l) : s = ⟨l.toArray⟩ := by
  subst h; simp

/-- the two tables of the library's decoder lie as their text lays them -/
def Tabs (w : World) : Prop := Lib.Utf8Tabs (ren197.g 3) (ren197.g 4) w
theorem Tabs.below {w w' : World} (h : Tabs w) (hb : Below w.heap.size w w') : Tabs w' := Go.Proofs.Utf8Tabs_below h hb

theorem decodeRune_any (s : ByteArray) (w : World) (hT : Tabs w) :
    Calls Tryd.prog 7 #[.string s] w fun e w' => e = .returned (.tuple #[.int .i32 (Lib.decodeGo s).1, .int .i64 (Lib.decodeGo s).2]) ∧ Below w.heap.size w w' := Go.Proofs.Any.utf8_DecodeRuneInString lays197 s w hT
theorem validString_any (s : ByteArray) (w : World) (hs : s.size ≤ 9223372036854775807) (hT : Tabs w) :
    Calls Tryd.prog 10 #[.string s] w fun e w' => e = .returned (.bool (Lib.validD s.data.toList)) ∧ Below w.heap.size w w' := Go.Proofs.Any.utf8_ValidString lays196 s w hs hT
theorem writeRune_any (B b : Nat) (bs : List Value) (r : Int) (hr0 : -2147483648 ≤ r) (hr1 : r ≤ 2147483647) (w : World) (h : Lib.IsBuilderF 29 5 B b bs w) (hlen : bs.length + 4 ≤ 140737488355328) (hBw : B ≤ w.heap.size) :
    Calls Tryd.prog 11 #[.pointer (some ⟨b, 0, none⟩), .int .i32 r] w fun e w' => e = .returned (.tuple #[.int .i64 (Lib.runeCells r).length, .nilIface]) ∧ (Lib.BuilderAtF 29 5 B b (.pointer (some ⟨b, 0, none⟩)) (bs ++ Lib.runeCells r) w' ∧ Below B w w' ∧ Lib.OthersKept 5 (some b) w w') := Go.Proofs.Any.Builder_WriteRune_k lays168 extra168 B b bs r hr0 hr1 w h hlen hBw
theorem builderString_any (B b : Nat) (l : List UInt8) (w : World) (h : Lib.IsBuilderF 29 5 B b (Lib.byteCells l) w) (hBw : B ≤ w.heap.size) :
    Calls Tryd.prog 12 #[.pointer (some ⟨b, 0, none⟩)] w fun e w' => e = .returned (.string ⟨l.toArray⟩) ∧ Below B w w' :=
  (Go.Proofs.Any.Builder_String_any_k lays169 extra169 B b l w h hBw).mono (by rintro e w' ⟨he, _, hb, _⟩; exact ⟨he, hb⟩)

attribute [local irreducible] Utf8.encode
set_option maxHeartbeats 1600000 in
theorem decoded_any (s : ByteArray) (w : World) (hs : s.size ≤ 2147483647) (hT : Tabs w) :
    Calls Tryd.prog 5 #[.string s] w fun e w' => e = .returned (.string ⟨(tr s.data.toList).toArray⟩) ∧ Below w.heap.size w w' := by
  go_enter Tryd.func5, Tryd.ntmps5
  go_wp2_with fail
  go_loopw [0, 3] (fun t o wr => ∃ x y : ByteArray, t = .string x ∧ o = .string y ∧ y.data.toList ++ tr x.data.toList = tr s.data.toList ∧ x.size ≤ s.size ∧ y.size ≤ 4 * (s.size - x.size) ∧ Below w.heap.size w wr) (fun t _ _ => match t with | .string x => x.size | _ => 0)
  case atStart => exact ⟨s, ByteArray.empty, rfl, rfl, by simp, Nat.le_refl _, by simp, Below.refl _ _⟩
  case round =>
    obtain ⟨x, y, rfl, rfl, heq, hx, hy, hb⟩ := hrel
    by_cases h0 : 0 < x.size
    · have hd := decodeRune_any x wr (hT.below hb)
      have hne : x.data.toList ≠ [] := dataL_nil.2 h0
      have hdec : Lib.decodeGo x = Lib.decodeL x.data.toList := by
        unfold Lib.decodeGo
        rw [if_neg (by omega)]
        have := Lib.decodeL_drop x 0
        simpa using this.symm
      rw [hdec] at hd
      have hstep := tr_step x.data.toList hne
      have hw1 := Lib.decodeL_width x.data.toList
      have hw2 := Lib.decodeL_le x.data.toList hne
      rw [← Lib.size_eq] at hw2
      have hr := Lib.decodeL_rune x.data.toList
      have hE := encode_size_le ((Lib.decodeL x.data.toList).1 : Int)
      have hys : y.size ≤ 8589934588 := by omega
      have hK : ((Lib.decodeL x.data.toList).2 : Int) ≤ (x.size : Int) := by omega
      generalize (Lib.decodeL x.data.toList).1 = R at *
      generalize (Lib.decodeL x.data.toList).2 = K at *
      have HEQ := Lib.hid heq; have HST := Lib.hid hstep; have HD := Lib.hid hd; have HB := Lib.hid hb
      have hT' := Lib.hid hT
      clear heq hstep hd hb hne hdec hT
      go_wp2_with (go_at_call 7; refine HD.out.mono ?_; rintro e w1 ⟨rfl, hb1⟩; have HB1 := Lib.hid hb1; clear hb1)
      go_roundw
      case rel =>
        refine ⟨x.extract K x.size, y ++ Utf8.encode (R : Int), by simp, by simp, ?_, ?_, ?_, HB.out.trans (HB1.out.mono HB.out.size)⟩
        · rw [append_data, encode_eq, extract_data, List.append_assoc, ← HST.out, HEQ.out]
        · simp [ByteArray.size_extract]; omega
        · have := enc_le (R : Int)
          have e1 : (y ++ Utf8.encode (R : Int)).size = y.size + (Lib.encodeRune (R : Int)).length := by
            rw [ByteArray.size_append, Lib.size_eq (Utf8.encode _), encode_eq]
          rw [e1, ByteArray.size_extract]
          omega
      case measure => simp [ByteArray.size_extract]; omega
    · have h00 : x.size = 0 := by omega
      have e0 : x.data.toList = [] := by
        rw [Lib.size_eq] at h00; exact List.eq_nil_of_length_eq_zero h00
      rw [e0, tr_nil, List.append_nil] at heq
      have HEQ := Lib.hid heq; have HB := Lib.hid hb
      clear heq hb hT e0 h00 hx hy
      go_wp2_with fail
      go_ret
      obtain rfl := data_mk _ y HEQ.out
      exact ⟨rfl, HB.out⟩

theorem width_pos (s : ByteArray) (pos : Nat) (h : pos < s.size) : 1 ≤ (Utf8.decode s pos).2 := by
  by_cases ha : (s[pos]'h).toNat < 128
  · rw [decode_ascii s pos h ha]
    exact Nat.le_refl _
  · exact (decode_high s pos h (by omega)).2
theorem tr_pos (s : ByteArray) (pos : Nat) (h : pos < s.size) : tr (s.data.toList.drop pos) = Lib.encodeRune ((Utf8.decode s pos).1 : Int) ++ tr (s.data.toList.drop (pos + (Utf8.decode s pos).2)) := by
  have hne : s.data.toList.drop pos ≠ [] := by
    intro e
    have := congrArg List.length e
    rw [List.length_drop, ← Lib.size_eq] at this
    simp at this; omega
  rw [tr_step _ hne, Lib.decodeL_drop, List.drop_drop]

set_option maxHeartbeats 4000000 in
theorem transcode_any (s : ByteArray) (w : World) (hs : s.size ≤ 2147483647) (hT : Tabs w) :
    Calls Tryd.prog 8 #[.string s] w fun e w' => e = .returned (.string ⟨(tr s.data.toList).toArray⟩) ∧ Below w.heap.size w w' := by
  have cV : Calls Tryd.prog 10 #[.string s] w (fun e w' => e = .returned (.bool (Lib.validD s.data.toList)) ∧ Below w.heap.size w w') := validString_any s w (by omega) hT
  cases hv : Lib.validD s.data.toList with
  | true =>
    rw [hv] at cV
    rw [tr_of_valid _ hv]
    clear hT hv
    go_enter Tryd.func8, Tryd.ntmps8
    go_wp2_with (go_at_call 10; refine cV.mono ?_; rintro e w1 ⟨rfl, hb⟩)
    go_ret
    exact ⟨by simp, hb⟩
  | false =>
    rw [hv] at cV
    clear hT hv
    go_enter Tryd.func8, Tryd.ntmps8
    go_wp2_with (go_at_call 10; refine cV.mono ?_; rintro e w1 ⟨rfl, hb⟩)
    have hbs := hb.size
    go_loopw [] (fun wr => ∃ (pos : Nat) (acc : List UInt8), Lib.IsBuilderF 29 5 w1.heap.size w1.heap.size (Lib.byteCells acc) wr ∧ wr.heap[w1.heap.size + 1]? = some (.stringIter s pos) ∧ Below w.heap.size w wr ∧ acc ++ tr (s.data.toList.drop pos) = tr s.data.toList ∧ acc.length ≤ 4 * pos) (fun wr => s.size - wr.iterPos (w1.heap.size + 1))
    case atStart =>
      refine ⟨0, [], (Lib.IsBuilderF.of (Lib.fresh_isBuilder 29 5 w1)).alloc _, ?_, (hb.alloc (by omega) _).alloc (by simp; omega) _, by simp, by simp⟩
      have := World.iter_heap (w1.alloc (.cells #[.pointer none, .slice none 0 0] 29)) s 0
      simpa using this
    case round =>
      obtain ⟨pos, acc, hI, hit, hbw, hacc, hal⟩ := hrel
      have hsz : w1.heap.size + 1 < wr.heap.size := (Array.getElem?_eq_some_iff.1 hit).1
      by_cases hp : pos < s.size
      · have hnx : ∀ ty, (Instr.next (.pointer (some ⟨w1.heap.size + 1, 0, none⟩)) true ty).run Tryd.prog wr = _ := fun ty => Lib.run_next_any_at wr (w1.heap.size + 1) s pos ty hit hp
        have hwd := width_pos s pos hp
        have hd1 := decode_le s pos
        have hst := tr_pos s pos hp
        have hI2 := hI.iterAt hit (pos + (Utf8.decode s pos).2)
        have hit2 := Lib.iterAt_heap wr (w1.heap.size + 1) s pos (pos + (Utf8.decode s pos).2) hit
        have hbw2 := Lib.below_iterAt hbw (k := w1.heap.size + 1) (by omega) s (pos + (Utf8.decode s pos).2)
        have hsz2 : w1.heap.size ≤ (wr.iterAt (w1.heap.size + 1) s (pos + (Utf8.decode s pos).2)).heap.size := by rw [Lib.iterAt_size]; omega
        go_wp2_with (go_at_call 11; refine (writeRune_any w1.heap.size w1.heap.size _ _ (by omega) (by omega) _ hI2 (by rw [Lib.byteCells_length]; omega) hsz2).mono ?_)
        rintro e W1 ⟨rfl, h1, b1, k1⟩
        go_wp2
        go_roundw
        case rel =>
          have hl4 := enc_le ((Utf8.decode s pos).1 : Int)
          refine ⟨pos + (Utf8.decode s pos).2, acc ++ Lib.encodeRune (Utf8.decode s pos).1, ?_, k1.iter hit2 (by omega), hbw2.trans (b1.mono hbs), ?_, by simp; omega⟩
          · rw [Lib.byteCells_append, Lib.byteCells_encodeRune]; exact Or.inr h1
          · rw [List.append_assoc, ← hst, hacc]
        case measure =>
          simp only [World.iterPos, k1.iter hit2 (by omega), hit]
          omega
      · have hnx : ∀ ty, (Instr.next (.pointer (some ⟨w1.heap.size + 1, 0, none⟩)) true ty).run Tryd.prog wr = _ := fun ty => Lib.run_next_end_at wr (w1.heap.size + 1) s pos ty hit hp
        go_wp2_with (go_at_call 12; refine (builderString_any w1.heap.size w1.heap.size acc _ hI (by omega)).mono ?_)
        rintro e W1 ⟨rfl, b1⟩
        go_wp2
        go_ret
        have e0 : s.data.toList.drop pos = [] := List.drop_eq_nil_of_le (by rw [← Lib.size_eq]; omega)
        rw [e0, tr_nil, List.append_nil] at hacc
        subst hacc
        exact ⟨rfl, hbw.trans (b1.mono hbs)⟩

theorem zz_any (s : ByteArray) (w : World) (hs : s.size ≤ 2147483647) (hT : Tabs w) :
    Calls Tryd.prog 6 #[.string s] w fun e w' => e = .returned (.string ⟨(tr s.data.toList).toArray⟩) ∧ Below w.heap.size w w' := by
  have C := Lib.hid (transcode_any s w hs hT)
  clear hT
  go_enter Tryd.func6, Tryd.ntmps6
  go_wp2_with (go_at_call 8; refine C.out.mono ?_; rintro e w1 ⟨rfl, hb⟩)
  go_ret
  exact ⟨rfl, hb⟩
theorem implTr_any (s : ByteArray) (w : World) (hs : s.size ≤ 2147483647) (hT : Tabs w) :
    Calls Tryd.prog 4 #[.string s] w fun e w' => e = .returned (.string ⟨(tr s.data.toList).toArray⟩) ∧ Below w.heap.size w w' := by
  have C := Lib.hid (zz_any s w hs hT)
  clear hT
  go_enter Tryd.func4, Tryd.ntmps4
  go_wp2_with (go_at_call 6; refine C.out.mono ?_; rintro e w1 ⟨rfl, hb⟩)
  go_ret
  exact ⟨rfl, hb⟩
end Go.Proofs.YtocobkjmbngjgaaDoor
