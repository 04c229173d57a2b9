/- FnStringCompare: the reference's side: cmpTexts, Equal, Compare of two texts; and the law. -/
import Derived.Test.YtglpnkjhehbenaaSc
namespace Go.Proofs.Ytglpnkjhehbenaa
open Go.RowKit
set_option linter.unusedVariables false

/-- the order of what stands from byte k on -/
def cb (a b : ByteArray) (k : Nat) : Int := Lib.compareBytes (a.data.toList.drop k) (b.data.toList.drop k)
theorem cb_at (a b : ByteArray) (k : Nat) (ha : k < a.size) (hb : k < b.size) :
    cb a b k = if a[k] < b[k] then -1 else if b[k] < a[k] then 1 else cb a b (k + 1) := by
  unfold cb
  rw [List.drop_eq_getElem_cons (show k < a.data.toList.length by simpa using ha), List.drop_eq_getElem_cons (show k < b.data.toList.length by simpa using hb), Lib.compareBytes]
  rfl
theorem cb_end (a b : ByteArray) (k : Nat) (ha : k ≤ a.size) (hb : k ≤ b.size) (h : k = a.size ∨ k = b.size) :
    cb a b k = if a.size < b.size then -1 else if b.size < a.size then 1 else 0 := by
  unfold cb
  have la : (a.data.toList.drop k).length = a.size - k := by rw [List.length_drop]; rfl
  have lb : (b.data.toList.drop k).length = b.size - k := by rw [List.length_drop]; rfl
  generalize a.data.toList.drop k = x at *
  generalize b.data.toList.drop k = y at *
  cases x with
  | nil =>
    simp only [List.length_nil] at la
    cases y with
    | nil => simp only [List.length_nil] at lb; rw [if_neg (by omega), if_neg (by omega)]; rfl
    | cons c y => simp only [List.length_cons] at lb; rw [if_pos (by omega)]; rfl
  | cons c x =>
    simp only [List.length_cons] at la
    cases y with
    | nil => simp only [List.length_nil] at lb; rw [if_neg (by omega), if_pos (by omega)]; rfl
    | cons d y => simp only [List.length_cons] at lb; omega

def cmpN (m n : Nat) : Int := if m < n then -1 else if n < m then 1 else 0
theorem lens_any (m n : Nat) (w : World) : Calls Try.prog 26 #[.int .i64 m, .int .i64 n] w fun e w' => e = .returned (.int .i64 (cmpN m n)) ∧ w = w' := by
  unfold cmpN
  by_cases h : m < n
  · rw [if_pos h]
    go_enter Try.func26, Try.ntmps26
    go_wp2
    go_ret
    exact ⟨rfl, rfl⟩
  · rw [if_neg h]
    by_cases h2 : n < m
    · rw [if_pos h2]
      go_enter Try.func26, Try.ntmps26
      go_wp2
      go_ret
      exact ⟨rfl, rfl⟩
    · rw [if_neg h2]
      go_enter Try.func26, Try.ntmps26
      go_wp2
      go_ret
      exact ⟨rfl, rfl⟩

/-- nothing but draws from the tape -/
def Dr (w w' : World) : Prop := ∃ n : Nat, w' = w.drewN n
theorem Dr.refl (w : World) : Dr w w := ⟨0, rfl⟩
theorem Dr.step {w w' : World} (h : Dr w w') (n : Nat) : Dr w (w'.drewN n) := by
  obtain ⟨m, rfl⟩ := h; exact ⟨m + n, World.drewN_drewN _ _ _⟩
theorem Dr.below {w w' : World} (h : Dr w w') : Below w.heap.size w w' := by
  obtain ⟨m, rfl⟩ := h; exact below_drewN (Below.refl _ _) _
def CtPost (a b : ByteArray) (w : World) (e : Ending) (w' : World) : Prop := e = .returned (.int .i64 (cb a b 0)) ∧ Dr w w'
theorem ret_i {k : IntKind} {a b : Int} (h : a = b) : Ending.returned (.int k a) = .returned (.int k b) := by rw [h]

set_option maxHeartbeats 400000 in
theorem ct_any (a b : ByteArray) (w : World) (ha : a.size ≤ 2147483647) (hb : b.size ≤ 2147483647) : Calls Try.prog 27 #[.string a, .string b] w (CtPost a b w) := by
  go_enter Try.func27, Try.ntmps27
  go_wp2
  go_loopw [5] (fun i wr => ∃ k : Nat, k ≤ a.size ∧ k ≤ b.size ∧ i = .int .i64 k ∧ Hid (cb a b k = cb a b 0) ∧ Dr w wr) (fun i _ => a.size - (intOf i).toNat)
  case atStart => exact ⟨0, Nat.zero_le _, Nat.zero_le _, rfl, Lib.hid rfl, Dr.refl _⟩
  case round =>
    obtain ⟨k, hka, hkb, rfl, hc, hd⟩ := hrel
    by_cases h1 : k < a.size
    · by_cases h2 : k < b.size
      · have hat := Lib.hid (cb_at a b k h1 h2)
        have u1 : a[k].toNat < 256 := a[k].toNat_lt
        have u2 : b[k].toNat < 256 := b[k].toNat_lt
        by_cases h3 : a[k].toNat = b[k].toNat
        · have e3 : ((a[k].toNat : Int) != (b[k].toNat : Int)) = false := by simp [h3]
          have h3' := Lib.hid h3
          clear h3
          go_wp2
          go_quiet (fail)
          go_wp2
          go_roundw
          case rel =>
            refine ⟨k + 1, by omega, by omega, by go_num, Lib.hid ?_, hd.step _⟩
            rw [← hc.out, hat.out, if_neg (by rw [UInt8.lt_iff_toNat_lt, h3'.out]; omega), if_neg (by rw [UInt8.lt_iff_toNat_lt, h3'.out]; omega)]
          case measure => simp [intOf]; omega
        · have e3 : ((a[k].toNat : Int) != (b[k].toNat : Int)) = true := by simp; omega
          by_cases h4 : a[k].toNat < b[k].toNat
          · go_wp2
            go_quiet (fail)
            go_wp2
            go_quiet (fail)
            go_wp2
            go_ret
            exact ⟨ret_i (by rw [← hc.out, hat.out, if_pos (by rw [UInt8.lt_iff_toNat_lt]; omega)]), (hd.step _).step _⟩
          · have h4' : ¬ ((a[k].toNat : Int) < (b[k].toNat : Int)) := by omega
            go_wp2
            go_quiet (fail)
            go_wp2
            go_quiet (fail)
            go_wp2
            go_ret
            exact ⟨ret_i (by rw [← hc.out, hat.out, if_neg (by rw [UInt8.lt_iff_toNat_lt]; omega), if_pos (by rw [UInt8.lt_iff_toNat_lt]; omega)]), (hd.step _).step _⟩
      · go_wp2_with fail
        refine (lens_any _ _ _).mono ?_
        rintro e w' ⟨rfl, rfl⟩
        go_wp2_with fail
        go_ret
        exact ⟨ret_i (by rw [← hc.out, cb_end a b k hka hkb (by omega)]; rfl), hd⟩
    · go_wp2_with fail
      refine (lens_any _ _ _).mono ?_
      rintro e w' ⟨rfl, rfl⟩
      go_wp2_with fail
      go_ret
      exact ⟨ret_i (by rw [← hc.out, cb_end a b k hka hkb (by omega)]; rfl), hd⟩
end Go.Proofs.Ytglpnkjhehbenaa
