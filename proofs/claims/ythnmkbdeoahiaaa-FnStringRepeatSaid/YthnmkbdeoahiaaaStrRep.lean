/- starlark.stringRepeat, impl.StringRepeat: a text so many times. -/
import Derived.Test.YthnmkbdeoahiaaaAsInt
import Derived.Test.YthnmkbdeoahiaaaRepeated
import Derived.Test.YthnmkbdeoahiaaaShelf
namespace Go.Proofs.Ythnmkbdeoahiaaa
open Go.RowKit Dig
set_option linter.unusedVariables false
set_option linter.unusedSimpArgs false
set_option maxRecDepth 100000

theorem sRepeat (s : ByteArray) (c : Nat) (w : World) (hc : c ≤ 9223372036854775807) (hlen : s.size * c ≤ 140737488355328) :
    Calls Try.prog 72 #[.string s, .int .i64 c] w fun e w' => e = .returned (.string (repB s c)) ∧ Below w.heap.size w w' := by
  rw [← repB_eq]
  exact Go.Proofs.Any.strings_Repeat lays105 extra105 s c w hc hlen
theorem sMul (x y : Nat) (w : World) (hx : x < 18446744073709551616) (hy : y < 18446744073709551616) :
    Calls Try.prog 71 #[.int .u64 x, .int .u64 y] w fun e w' => e = .returned (.tuple #[.int .u64 ((x * y / 18446744073709551616 : Nat) : Int), .int .u64 ((x * y % 18446744073709551616 : Nat) : Int)]) ∧ w = w' :=
  (Go.Proofs.Any.bits_Mul lays212 x y hx hy w).mono (fun e w' h => ⟨h.1, h.2.symm⟩)

def SRPost (s : ByteArray) (i : Int) (w : World) (e : Ending) (w' : World) : Prop := e = .returned (.tuple #[.string (repB s i.toNat), .nilIface]) ∧ Below w.heap.size w w'
set_option maxHeartbeats 800000 in
theorem stringRepeat_any (s : ByteArray) (v : Value) (i : Int) (w : World) (hv : In w w.heap.size v i) (hi : i.natAbs < 16777216) (hs : s.size ≤ 300) (hask : s.size = 0 ∨ i < 1 ∨ (i ≤ 1048576 ∧ i.toNat * s.size ≤ 65536)) :
    Calls Try.prog 48 #[.string s, v] w (SRPost s i w) := by
  obtain ⟨sm, p, rfl⟩ := hv.form
  have hb0 : Below w.heap.size w (w.alloc (.cells #[.int .i64 sm, .pointer p] 70)) := (Below.refl _ _).alloc (Nat.le_refl _) _
  have HB0 := Lib.hid hb0
  by_cases hz : s.size = 0
  · obtain rfl : s = ByteArray.empty := by
      apply ByteArray.ext
      apply Array.eq_empty_of_size_eq_zero
      simpa using hz
    have FIN : Hid (SRPost ByteArray.empty i w (.returned (.tuple #[.string ByteArray.empty, .nilIface])) (w.alloc (.cells #[.int .i64 sm, .pointer p] 70))) := Lib.hid ⟨by rw [repB_empty _ rfl], hb0⟩
    clear hv hz hask hb0
    go_enter Try.func48, Try.ntmps48
    go_wp2_with fail
    go_ret2
    exact FIN.out
  · have hne : ¬ s.toList = [] := by
      intro h
      rw [ByteArray.toList_eq] at h
      have := congrArg List.length h
      simp at this
      exact hz (by simpa using this)
    have hne2 : s.toList.isEmpty = false := by simpa using hne
    have C : Hid (Calls Try.prog 70 #[.iface 70 (.agg #[.int .i64 sm, .pointer p])] (w.alloc (.cells #[.int .i64 sm, .pointer p] 70)) fun e w' => e = .returned (.tuple #[.int .i64 i, .nilIface]) ∧ Below w.heap.size w w') := Lib.hid (by
      refine (asInt32_any _ i _ ((hv.below hb0).more hb0.size)).mono ?_
      rintro e w' ⟨hb, h | ⟨h, _⟩⟩
      · exact ⟨h.2.2, hb0.trans (hb.mono hb0.size)⟩
      · omega)
    by_cases h1 : i < 1
    · have FIN : Hid (∀ W, Below w.heap.size w W → SRPost s i w (.returned (.tuple #[.string ByteArray.empty, .nilIface])) W) := Lib.hid (fun W h => ⟨by rw [show i.toNat = 0 by omega]; rfl, h⟩)
      clear hv hask hb0
      go_enter Try.func48, Try.ntmps48
      go_wp2_with fail
      refine C.out.mono ?_
      rintro e w1 ⟨rfl, hb1⟩
      have HB1 := Lib.hid hb1; clear hb1
      go_wp2_with fail
      go_ret2
      exact FIN.out _ HB1.out
    · obtain ⟨K, rfl⟩ := Int.eq_ofNat_of_zero_le (show 0 ≤ i by omega)
      have hp : K * s.size ≤ 65536 := by
        rcases hask with h | h | h
        · exact absurd h hz
        · omega
        · simpa using h.2
      have hp2 : s.size * K ≤ 65536 := by rw [Nat.mul_comm]; exact hp
      have M : Hid (∀ W : World, Calls Try.prog 71 #[.int .u64 s.size, .int .u64 K] W fun e w' => e = .returned (.tuple #[.int .u64 0, .int .u64 ((s.size * K : Nat) : Int)]) ∧ W = w') := Lib.hid (fun W => by
        have h := sMul s.size K W (by omega) (by omega)
        rw [Nat.div_eq_of_lt (show s.size * K < 18446744073709551616 by omega), Nat.mod_eq_of_lt (show s.size * K < 18446744073709551616 by omega)] at h
        exact h)
      have R := Lib.hid (fun W => sRepeat s K W (by omega) (by omega))
      have hp3 : ((s.size * K : Nat) : Int) ≤ 65536 := by omega
      have hp4 : (0 : Int) ≤ ((s.size * K : Nat) : Int) := by omega
      generalize ((s.size * K : Nat) : Int) = pr at *
      have FIN : Hid (∀ W, Below w.heap.size w W → SRPost s (K : Int) w (.returned (.tuple #[.string (repB s K), .nilIface])) W) := Lib.hid (fun W h => ⟨rfl, h⟩)
      have hk1 : 1 ≤ K := by omega
      have hk2 : K < 16777216 := by omega
      clear hv hask hb0 hp hi h1 hp2
      go_enter Try.func48, Try.ntmps48
      go_wp2_with fail
      refine C.out.mono ?_
      rintro e w1 ⟨rfl, hb1⟩
      have HB1 := Lib.hid hb1; clear hb1
      go_wp2_with fail
      refine (M.out _).mono ?_
      rintro e w2 ⟨rfl, rfl⟩
      clear hne hne2 M C HB0 hk1 hk2 hp4
      go_wp2_with fail
      refine (R.out _).mono ?_
      rintro e w2 ⟨rfl, hb2⟩
      have HB2 := Lib.hid (HB1.out.trans (hb2.mono HB1.out.size)); clear hb2
      go_wp2_with fail
      go_ret2
      exact FIN.out _ HB2.out
end Go.Proofs.Ythnmkbdeoahiaaa
