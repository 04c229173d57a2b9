/- FnStringCompare: Equal and Compare of two texts, and the law. -/
import Derived.Test.YtglpnkjhehbenaaSd
namespace Go.Proofs.Ytglpnkjhehbenaa
open Go.RowKit
set_option linter.unusedVariables false

/-- a text as an impl.Val -/
abbrev tv (a : ByteArray) : Value := .agg #[.int .i64 4, .bool false, .slice none 0 0, .int .u64 0, .string a, .slice none 0 0]

theorem text_any (a : ByteArray) (w : World) : Calls Try.prog 12 #[.string a] w fun e w' => e = .returned (tv a) ∧ Below w.heap.size w w' := by
  go_enter Try.func12, Try.ntmps12
  go_wp2
  go_returns
  exact ⟨rfl, by go_grown⟩

theorem number_any (a : ByteArray) (w : World) : Calls Try.prog 23 #[tv a] w fun e w' => e = .returned (.bool false) ∧ Below w.heap.size w w' := by
  go_enter Try.func23, Try.ntmps23
  go_wp2
  go_returns
  exact ⟨rfl, by go_grown⟩

def EqPost (a b : ByteArray) (w : World) (e : Ending) (w' : World) : Prop := e = .returned (.bool (a.toList == b.toList)) ∧ Below w.heap.size w w'
theorem equal_any (a b : ByteArray) (w : World) : Calls Try.prog 22 #[tv a, tv b] w (EqPost a b w) := by
  go_enter Try.func22, Try.ntmps22
  go_wp2
  go_rounds 1
  go_returns
  exact ⟨rfl, by go_grown⟩

theorem eq_cb (a b : ByteArray) : (a.toList == b.toList) = (Lib.compareBytes a.data.toList b.data.toList == 0) := by
  rw [ByteArray.toList_eq, ByteArray.toList_eq, Bool.eq_iff_iff]
  simp [cb_zero]

theorem cmp_eq (op : Int) (a b : ByteArray) (w : World) (ho : op = 13 ∨ op = 14) : Calls Try.prog 11 #[.int .i64 op, tv a, tv b] w (ScPost (tw op (Lib.compareBytes a.data.toList b.data.toList)) w) := by
  have e := eq_cb a b
  rcases ho with rfl | rfl
  · have fin : (a.toList == b.toList) = tw 13 (Lib.compareBytes a.data.toList b.data.toList) := by simp [tw, e]
    have FIN := Lib.hid fin; clear fin e
    go_enter Try.func11, Try.ntmps11
    go_wp2_with fail
    refine (equal_any _ _ _).mono ?_
    rintro e w1 ⟨rfl, h1⟩
    rw [FIN.out]
    go_wp2_with fail
    go_ret2
    exact ⟨rfl, (((Below.refl _ _).alloc (Nat.le_refl _) _).alloc (by simp) _).trans (h1.mono (by simp; omega))⟩
  · have fin : (a.toList == b.toList) = !tw 14 (Lib.compareBytes a.data.toList b.data.toList) := by simp [tw, e, bne]
    have FIN := Lib.hid fin; clear fin e
    go_enter Try.func11, Try.ntmps11
    go_wp2_with fail
    refine (equal_any _ _ _).mono ?_
    rintro e w1 ⟨rfl, h1⟩
    rw [FIN.out]
    go_wp2_with fail
    go_ret2
    refine ⟨?_, (((Below.refl _ _).alloc (Nat.le_refl _) _).alloc (by simp) _).trans (h1.mono (by simp; omega))⟩
    simp

theorem cmp_ord (op : Int) (a b : ByteArray) (w : World) (ha : a.size ≤ 2147483647) (hb : b.size ≤ 2147483647) (ho : op = 15 ∨ op = 16 ∨ op = 17 ∨ op = 18) :
    Calls Try.prog 11 #[.int .i64 op, tv a, tv b] w (ScPost (tw op (Lib.compareBytes a.data.toList b.data.toList)) w) := by
  have hc := cb_three a.data.toList b.data.toList
  have k13 : (op == 13) = false := by rcases ho with rfl | rfl | rfl | rfl <;> rfl
  have k14 : (op == 14) = false := by rcases ho with rfl | rfl | rfl | rfl <;> rfl
  go_enter Try.func11, Try.ntmps11
  go_wp2_with (go_at_call 23; go_in)
  go_wp2_with fail
  refine (ct_any _ _ _ ha hb).mono ?_
  rintro e w' ⟨rfl, n, rfl⟩
  go_wp2_with fail
  refine (holds_any _ _ _ ho hc).mono ?_
  rintro e w' ⟨rfl, rfl⟩
  go_wp2_with fail
  go_ret2
  refine ⟨rfl, ?_⟩
  refine below_drewN ?_ _
  go_grown

theorem asop_any (n : Int) (w : World) : Calls Try.prog 9 #[.int .i64 n] w fun e w' => ∃ op : Int, e = .returned (.int .i64 op) ∧ (op = 13 ∨ op = 14 ∨ op = 15 ∨ op = 16 ∨ op = 17 ∨ op = 18) ∧ w = w' := by
  have b := Int.lt_tmod_of_pos n (b := 6) (by omega)
  have c := Int.tmod_lt_of_pos n (b := 6) (by omega)
  go_enter Try.func9, Try.ntmps9
  go_wp2
  go_ret
  exact ⟨_, rfl, by omega, rfl⟩

theorem law4 (n : Int) (a b : ByteArray) (w : World) (wa : a.size ≤ maxLen) (wb : b.size ≤ maxLen) :
    Calls Try.prog 4 #[.int .i64 n, .string a, .string b] w fun e w' => e = .returned (.bool true) ∧ Below w.heap.size w w' := by
  unfold maxLen at wa wb
  by_cases ha : a.size ≤ 2147483647
  · by_cases hb : b.size ≤ 2147483647
    · go_enter Try.func4, Try.ntmps4
      go_wp2_with fail
      refine (asop_any _ _).mono ?_
      rintro e w' ⟨op, rfl, ho, rfl⟩
      go_wp2_with fail
      refine (impl_any _ _ _ _ ho).mono ?_
      rintro e w1 ⟨rfl, h1⟩
      go_wp2_with fail
      refine (text_any _ _).mono ?_
      rintro e w2 ⟨rfl, h2⟩
      go_wp2_with fail
      refine (text_any _ _).mono ?_
      rintro e w3 ⟨rfl, h3⟩
      go_wp2_with fail
      have H := h1.trans ((h2.mono h1.size).trans (h3.mono (Nat.le_trans h1.size h2.size)))
      have fin : Calls Try.prog 11 #[.int .i64 op, tv a, tv b] w3 (ScPost (tw op (Lib.compareBytes a.data.toList b.data.toList)) w3) := by
        rcases ho with h | h | h | h | h | h
        · exact cmp_eq _ _ _ _ (.inl h)
        · exact cmp_eq _ _ _ _ (.inr h)
        · exact cmp_ord _ _ _ _ ha hb (.inl h)
        · exact cmp_ord _ _ _ _ ha hb (.inr (.inl h))
        · exact cmp_ord _ _ _ _ ha hb (.inr (.inr (.inl h)))
        · exact cmp_ord _ _ _ _ ha hb (.inr (.inr (.inr h)))
      refine fin.mono ?_
      clear fin ho
      rintro e w4 ⟨rfl, h4⟩
      have H2 := H.trans (h4.mono H.size)
      clear H h1 h2 h3 h4
      go_wp2_with fail
      go_ret
      exact ⟨rfl, H2⟩
    · go_enter Try.func4, Try.ntmps4
      go_wp2_with fail
      go_ret
      exact ⟨rfl, Below.refl _ _⟩
  · go_enter Try.func4, Try.ntmps4
    go_wp2_with fail
    go_ret
    exact ⟨rfl, Below.refl _ _⟩
end Go.Proofs.Ytglpnkjhehbenaa
