/- The law FnQuote: its walk. -/
import Derived.Test.YtoghnefgflkpdaaDoorUnq5
import Derived.Test.YtoghnefgflkpdaaDoorQuo2
namespace Go.Proofs.YtoghnefgflkpdaaDoor
open Go.RowKit
set_option linter.unusedVariables false
set_option linter.unusedSimpArgs false
set_option maxRecDepth 1000000

/-- the tables of the library lie as their text lays them -/
def QTabs (T : Lib.PrintTabs) (w : World) : Prop := Lib.PrintTabsAt (ren339.g 20) (ren339.g 21) (ren339.g 22) (ren339.g 23) T w ∧ Lib.Utf8Tabs (ren197.g 3) (ren197.g 4) w
theorem QTabs.below {T : Lib.PrintTabs} {w w' : World} (h : QTabs T w) (hb : Below w.heap.size w w') : QTabs T w' := ⟨printTabs_below h.1 hb, Go.Proofs.Utf8Tabs_below h.2 hb⟩
/-- the literal -/
def lit (T : Lib.PrintTabs) (b : Bool) (s : ByteArray) : ByteArray := strOfNums ((if b then [98] else []) ++ Lib.quoteZ T s)
theorem lit_data (T : Lib.PrintTabs) (b : Bool) (s : ByteArray) : (lit T b s).data.toList = (if b then [98] else []) ++ (34 :: (ub (Lib.quoteFrom T s.size s) ++ [34])) := by
  unfold lit
  rw [strOfNums_data, List.map_append]
  congr 1
  · cases b <;> rfl
  · simp only [Lib.quoteZ, List.map_cons, List.map_append, List.map_nil]
    rfl
theorem lit_size (T : Lib.PrintTabs) (b : Bool) (s : ByteArray) (hs : s.size ≤ 2147483647) : (lit T b s).size ≤ 34359738368 := by
  unfold lit
  rw [strOfNums_size, List.length_append]
  have := Lib.quoteZ_length_le T s
  have : (if b = true then [98] else ([] : List Int)).length ≤ 1 := by cases b <;> simp
  omega
theorem mk_data (s : ByteArray) : (⟨s.data.toList.toArray⟩ : ByteArray) = s := by simp
theorem implQuote_any (T : Lib.PrintTabs) (s : ByteArray) (b : Bool) (w : World) (hs : s.size ≤ 2147483647) (hT : QTabs T w) :
    Calls Tryd.prog 5 #[.string s, .bool b] w fun e w' => e = .returned (.string (lit T b s)) ∧ Below w.heap.size w w' := by
  have C := Lib.hid (quote_any T s b w hs hT.1 hT.2)
  have hZ : strOfNums ((if b then [98] else []) ++ Lib.quoteZ T s) = lit T b s := rfl
  rw [hZ] at C
  clear hT hZ
  generalize lit T b s = Z at *
  go_enter Tryd.func5, Tryd.ntmps5
  go_wp2_with (go_at_call 8; refine C.out.mono ?_; rintro e w' ⟨rfl, hb⟩)
  go_ret
  exact ⟨rfl, hb⟩
theorem unquoteLit_any (T : Lib.PrintTabs) (s : ByteArray) (b : Bool) (w : World) (hs : s.size ≤ 2147483647) (hok : b = true ∨ okFrom s.size s) :
    Calls Tryd.prog 4 #[.string (lit T b s), .bool b] w fun e w' => e = .returned (.tuple #[.string s, .bool true]) ∧ Below w.heap.size w w' := by
  have := unquote_any b (lit T b s) _ s.data.toList w (lit_data T b s) (quote_reads T b s.size s (Nat.le_refl _) hok) (lit_size T b s hs)
  rw [mk_data] at this
  exact this

set_option maxHeartbeats 1600000 in
theorem lawQuote (T : Lib.PrintTabs) (s : ByteArray) (w : World) (hT : QTabs T w) :
    Calls Tryd.prog 3 #[.string s] w fun e w' => e = .returned (.bool true) ∧ Below w.heap.size w w' := by
  by_cases hl : s.size ≤ 2147483647
  · obtain ⟨u, hu⟩ : ∃ u : ByteArray, u = ⟨(vl s.data.toList).toArray⟩ := ⟨_, rfl⟩
    have hus : u.size ≤ 2147483647 := by
      have h1 := vl_length s.data.toList.length s.data.toList (Nat.le_refl _)
      rw [hu, Lib.size_eq]
      rw [Lib.size_eq] at hl
      show (vl s.data.toList).length ≤ _
      omega
    have hok : okFrom u.size u := by rw [hu]; exact vl_ok _ _ s.data.toList (Nat.le_refl _)
    obtain ⟨Z1, hZ1⟩ : ∃ Z, Z = lit T true s := ⟨_, rfl⟩
    obtain ⟨Z2, hZ2⟩ : ∃ Z, Z = lit T false u := ⟨_, rfl⟩
    have Q1 : Hid (∀ W, Below w.heap.size w W → Calls Tryd.prog 5 #[.string s, .bool true] W fun e w' => e = .returned (.string Z1) ∧ Below w.heap.size w w') := Lib.hid (fun W h => by
      rw [hZ1]; exact (implQuote_any T s true W hl (hT.below h)).mono (by rintro e w' ⟨he, hb⟩; exact ⟨he, h.trans (hb.mono h.size)⟩))
    have Q2 : Hid (∀ W, Below w.heap.size w W → Calls Tryd.prog 5 #[.string u, .bool false] W fun e w' => e = .returned (.string Z2) ∧ Below w.heap.size w w') := Lib.hid (fun W h => by
      rw [hZ2]; exact (implQuote_any T u false W hus (hT.below h)).mono (by rintro e w' ⟨he, hb⟩; exact ⟨he, h.trans (hb.mono h.size)⟩))
    have U1 : Hid (∀ W, Below w.heap.size w W → Calls Tryd.prog 4 #[.string Z1, .bool true] W fun e w' => e = .returned (.tuple #[.string s, .bool true]) ∧ Below w.heap.size w w') := Lib.hid (fun W h => by
      rw [hZ1]; exact (unquoteLit_any T s true W hl (.inl rfl)).mono (by rintro e w' ⟨he, hb⟩; exact ⟨he, h.trans (hb.mono h.size)⟩))
    have U2 : Hid (∀ W, Below w.heap.size w W → Calls Tryd.prog 4 #[.string Z2, .bool false] W fun e w' => e = .returned (.tuple #[.string u, .bool true]) ∧ Below w.heap.size w w') := Lib.hid (fun W h => by
      rw [hZ2]; exact (unquoteLit_any T u false W hus (.inr hok)).mono (by rintro e w' ⟨he, hb⟩; exact ⟨he, h.trans (hb.mono h.size)⟩))
    have VV : Hid (∀ W, Below w.heap.size w W → Calls Tryd.prog 6 #[.string s] W fun e w' => e = .returned (.string u) ∧ Below w.heap.size w w') := Lib.hid (fun W h => by
      rw [hu]; exact (valid_any s W hl (hT.below h).2).mono (by rintro e w' ⟨he, hb⟩; exact ⟨he, h.trans (hb.mono h.size)⟩))
    have HB : Hid (Below w.heap.size w w) := Below.refl _ _
    clear hT hu hus hok hZ1 hZ2
    go_enter Tryd.func3, Tryd.ntmps3
    go_wp2_with (first
      | (go_at_call 5; (with_reducible refine (Q1.out _ HB.out).mono ?_); rintro e w1 ⟨rfl, hb⟩; have HB := Lib.hid hb; clear hb Q1)
      | (go_at_call 4; (with_reducible refine (U1.out _ HB.out).mono ?_); rintro e w2 ⟨rfl, hb⟩; have HB := Lib.hid hb; clear hb U1)
      | (go_at_call 6; (with_reducible refine (VV.out _ HB.out).mono ?_); rintro e w3 ⟨rfl, hb⟩; have HB := Lib.hid hb; clear hb VV)
      | (go_at_call 5; (with_reducible refine (Q2.out _ HB.out).mono ?_); rintro e w4 ⟨rfl, hb⟩; have HB := Lib.hid hb; clear hb Q2)
      | (go_at_call 4; (with_reducible refine (U2.out _ HB.out).mono ?_); rintro e w5 ⟨rfl, hb⟩; have HB := Lib.hid hb; clear hb U2))
    all_goals
      go_ret
      exact ⟨rfl, HB.out⟩
  · clear hT
    have HB : Hid (Below w.heap.size w w) := Below.refl _ _
    go_enter Tryd.func3, Tryd.ntmps3
    go_wp2_with fail
    go_ret
    exact ⟨rfl, HB.out⟩
end Go.Proofs.YtoghnefgflkpdaaDoor
