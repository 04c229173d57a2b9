/- Methods of strings: small functions of the reference, the receiver of a method, its name; no argument unpacked. -/
import Derived.Test.YtoggalnjjhcmkaaGreatAscii
import Derived.Laws.EntriesVeiled
import Derived.Lib.Hide
namespace Go.Proofs.YtoggalnjjhcmkaaGreat
open Go.RowKit
set_option linter.unusedVariables false
set_option linter.unusedSimpArgs false
set_option maxRecDepth 100000

theorem specUpper_any (c : Int) (w : World) : Calls Tryz.prog 111 #[.int .u8 c] w fun e w' => e = .returned (.bool (decide (65 ≤ c) && decide (c ≤ 90))) ∧ w' = w := by
  by_cases a : 65 ≤ c <;> by_cases b : c ≤ 90 <;>
  (go_enter Tryz.func111, Tryz.ntmps111
   go_wp2_with fail
   go_ret
   exact ⟨by simp [a, b], rfl⟩)
theorem specLower_any (c : Int) (w : World) : Calls Tryz.prog 112 #[.int .u8 c] w fun e w' => e = .returned (.bool (decide (97 ≤ c) && decide (c ≤ 122))) ∧ w' = w := by
  by_cases a : 97 ≤ c <;> by_cases b : c ≤ 122 <;>
  (go_enter Tryz.func112, Tryz.ntmps112
   go_wp2_with fail
   go_ret
   exact ⟨by simp [a, b], rfl⟩)
theorem specFigure_any (c : Int) (w : World) : Calls Tryz.prog 113 #[.int .u8 c] w fun e w' => e = .returned (.bool (decide (48 ≤ c) && decide (c ≤ 57))) ∧ w' = w := by
  by_cases a : 48 ≤ c <;> by_cases b : c ≤ 57 <;>
  (go_enter Tryz.func113, Tryz.ntmps113
   go_wp2_with fail
   go_ret
   exact ⟨by simp [a, b], rfl⟩)
theorem isDigit7_any (c : Int) (w : World) (h : c < 128) : Calls Tryz.prog 125 #[.int .i32 c] w fun e w' => e = .returned (.bool (decide (48 ≤ c) && decide (c ≤ 57))) ∧ w' = w := by
  by_cases a : 48 ≤ c <;> by_cases b : c ≤ 57 <;>
  (go_enter Tryz.func125, Tryz.ntmps125
   go_wp2_with fail
   go_ret
   exact ⟨by simp [a, b], rfl⟩)
theorem boolVal_any (b : Bool) (w : World) : Calls Tryz.prog 61 #[.bool b] w fun e w' => e = .returned (.agg #[.int .i64 1, .bool false, .slice none 0 0, .int .u64 (if b then 1 else 0), .string ByteArray.empty, .slice none 0 0]) ∧ Below w.heap.size w w' := by
  cases b <;>
  (go_enter Tryz.func61, Tryz.ntmps61
   go_wp2_with fail)
  · refine bodyPost_ret (v := .agg #[.int .i64 1, .bool false, .slice none 0 0, .int .u64 0, .string ByteArray.empty, .slice none 0 0]) (by simp [results, Tryz.results61, go_sem]; rfl) rfl ?_
    refine ⟨rfl, ?_⟩
    exact (Below.refl _ _).alloc (Nat.le_refl _) _
  · refine bodyPost_ret (v := .agg #[.int .i64 1, .bool false, .slice none 0 0, .int .u64 1, .string ByteArray.empty, .slice none 0 0]) (by simp [results, Tryz.results61, go_sem]; rfl) rfl ?_
    refine ⟨rfl, ?_⟩
    exact (Below.refl _ _).alloc (Nat.le_refl _) _
/-- a method's block: its name, its function, what it is called on -/
theorem newBuiltin_m (s : ByteArray) (k : Nat) (w : World) : Calls Tryz.prog 59 #[.string s, .func (.func k) #[] #[]] w fun e w' => e = .returned (.pointer (some ⟨w.heap.size, 0, none⟩)) ∧ w' = w.alloc (.cells #[.string s, .func (.func k) #[] #[], .nilIface] 148) := by
  go_enter Tryz.func59, Tryz.ntmps59
  go_wp2_with fail
  go_ret
  exact ⟨rfl, rfl⟩
/-- a method that is called on v stands in block b -/
def Meth (w : World) (b : Nat) (s : ByteArray) (k : Nat) (v : Value) : Prop := Blk w b 148 [.string s, .func (.func k) #[] #[], v]
theorem name_any (b : Nat) (s : ByteArray) (k : Nat) (v : Value) (w : World) (h : Meth w b s k v) : Calls Tryz.prog 100 #[.pointer (some ⟨b, 0, none⟩)] w fun e w' => e = .returned (.string s) ∧ w' = w := by
  have c0 := h.cell 0 (by simp)
  go_enter Tryz.func100, Tryz.ntmps100
  go_wp2_with fail
  go_ret
  exact ⟨rfl, rfl⟩
theorem receiver_any (b : Nat) (s : ByteArray) (k : Nat) (T : TypeId) (v : Value) (w : World) (h : Meth w b s k (.iface T v)) : Calls Tryz.prog 99 #[.pointer (some ⟨b, 0, none⟩)] w fun e w' => e = .returned (.iface T v) ∧ w' = w := by
  have c2 := h.cell 2 (by simp)
  go_enter Tryz.func99, Tryz.ntmps99
  go_wp2_with fail
  go_ret
  exact ⟨rfl, rfl⟩
theorem bind_any (b : Nat) (s : ByteArray) (k : Nat) (v0 : Value) (T : TypeId) (v : Value) (w : World) (h : Meth w b s k v0) : Calls Tryz.prog 98 #[.pointer (some ⟨b, 0, none⟩), .iface T v] w fun e w' => ∃ b', e = .returned (.pointer (some ⟨b', 0, none⟩)) ∧ Meth w' b' s k (.iface T v) ∧ Below w.heap.size w w' := by
  have c0 := h.cell 0 (by simp)
  have c1 := h.cell 1 (by simp)
  go_enter Tryz.func98, Tryz.ntmps98
  go_wp2_with fail
  go_region
  go_wp2_with fail
  go_ret
  exact ⟨_, rfl, by unfold Meth Blk; exact heap_alloc_new w _, below_drew1 ((Below.refl _ _).alloc (Nat.le_refl _) _)⟩
theorem assertStr (s : ByteArray) (w : World) : (Instr.typeAssert (.iface 96 (.string s)) 77 96 false).run Tryz.prog w = .ok (.string s) w := by kernel_rfl
theorem assertBool (b : Bool) (w : World) : (Instr.typeAssert (.iface 115 (.bool b)) 77 115 true).run Tryz.prog w = .ok (.tuple #[.bool b, .bool true]) w := by kernel_rfl
theorem ofTruth_any (b : Bool) (w : World) : Calls Tryz.prog 54 #[.iface 115 (.bool b), .nilIface] w fun e w' => e = .returned (.tuple #[.bool b, .bool true]) ∧ Below w.heap.size w w' := by
  have ha := assertBool
  cases b <;>
  (go_enter Tryz.func54, Tryz.ntmps54
   go_wp2_with fail
   go_quiet (fail)
   go_wp2_with fail
   go_ret2
   exact ⟨rfl, below_drewN (Below.refl _ _) _⟩)
theorem checkPos0_any (s : ByteArray) (w : World) :
    Calls Tryz.prog 128 #[.string s, .slice none 0 0, .slice none 0 0, .int .i64 0, .int .i64 0] w fun e w' => e = .returned .nilIface ∧ w' = w := by
  go_enter Tryz.func128, Tryz.ntmps128
  go_wp2_with fail
  go_ret
  exact ⟨rfl, rfl⟩
theorem unpackNone_any (s : ByteArray) (w : World) :
    Calls Tryz.prog 124 #[.string s, .slice none 0 0, .slice none 0 0, .int .i64 0, .slice none 0 0] w fun e w' => e = .returned .nilIface ∧ w' = w := by
  have C := Lib.hid (checkPos0_any s)
  go_enter Tryz.func124, Tryz.ntmps124
  go_wp2_with fail
  refine (C.out _).mono ?_
  rintro e w' ⟨rfl, rfl⟩
  go_wp2_with fail
  go_loop [27] (fun i => i = .int .i64 0) (fun _ => 0)
  case atStart => rfl
  case round =>
    subst hrel
    go_wp2_with fail
    go_ret
    exact ⟨rfl, rfl⟩
end Go.Proofs.YtoggalnjjhcmkaaGreat
