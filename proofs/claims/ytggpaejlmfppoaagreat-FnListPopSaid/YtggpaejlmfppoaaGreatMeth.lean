/- Methods of strings: small functions of the reference, the receiver of a method, its name; no argument unpacked. -/
import Derived.Test.YtggpaejlmfppoaaGreatAscii
import Derived.Laws.EntriesVeiled
import Derived.Lib.Hide
namespace Go.Proofs.YtggpaejlmfppoaaGreat
open Go.RowKit
set_option linter.unusedVariables false
set_option linter.unusedSimpArgs false
set_option maxRecDepth 100000

theorem boolVal_any (b : Bool) (w : World) : Calls Tryz.prog 35 #[.bool b] w fun e w' => e = .returned (.agg #[.int .i64 1, .bool false, .slice none 0 0, .int .u64 (if b then 1 else 0), .string ByteArray.empty, .slice none 0 0]) ∧ Below w.heap.size w w' := by
  cases b <;>
  (go_enter Tryz.func35, Tryz.ntmps35
   go_wp2_with fail)
  · refine bodyPost_ret (v := .agg #[.int .i64 1, .bool false, .slice none 0 0, .int .u64 0, .string ByteArray.empty, .slice none 0 0]) (by simp [results, Tryz.results35, go_sem]; rfl) rfl ?_
    refine ⟨rfl, ?_⟩
    exact (Below.refl _ _).alloc (Nat.le_refl _) _
  · refine bodyPost_ret (v := .agg #[.int .i64 1, .bool false, .slice none 0 0, .int .u64 1, .string ByteArray.empty, .slice none 0 0]) (by simp [results, Tryz.results35, go_sem]; rfl) rfl ?_
    refine ⟨rfl, ?_⟩
    exact (Below.refl _ _).alloc (Nat.le_refl _) _
/-- a method's block: its name, its function, what it is called on -/
theorem newBuiltin_m (s : ByteArray) (k : Nat) (w : World) : Calls Tryz.prog 58 #[.string s, .func (.func k) #[] #[]] w fun e w' => e = .returned (.pointer (some ⟨w.heap.size, 0, none⟩)) ∧ w' = w.alloc (.cells #[.string s, .func (.func k) #[] #[], .nilIface] 142) := by
  go_enter Tryz.func58, Tryz.ntmps58
  go_wp2_with fail
  go_ret
  exact ⟨rfl, rfl⟩
/-- a method that is called on v stands in block b -/
def Meth (w : World) (b : Nat) (s : ByteArray) (k : Nat) (v : Value) : Prop := Blk w b 142 [.string s, .func (.func k) #[] #[], v]
theorem name_any (b : Nat) (s : ByteArray) (k : Nat) (v : Value) (w : World) (h : Meth w b s k v) : Calls Tryz.prog 62 #[.pointer (some ⟨b, 0, none⟩)] w fun e w' => e = .returned (.string s) ∧ w' = w := by
  have c0 := h.cell 0 (by simp)
  go_enter Tryz.func62, Tryz.ntmps62
  go_wp2_with fail
  go_ret
  exact ⟨rfl, rfl⟩
theorem receiver_any (b : Nat) (s : ByteArray) (k : Nat) (T : TypeId) (v : Value) (w : World) (h : Meth w b s k (.iface T v)) : Calls Tryz.prog 60 #[.pointer (some ⟨b, 0, none⟩)] w fun e w' => e = .returned (.iface T v) ∧ w' = w := by
  have c2 := h.cell 2 (by simp)
  go_enter Tryz.func60, Tryz.ntmps60
  go_wp2_with fail
  go_ret
  exact ⟨rfl, rfl⟩
theorem bind_any (b : Nat) (s : ByteArray) (k : Nat) (v0 : Value) (T : TypeId) (v : Value) (w : World) (h : Meth w b s k v0) : Calls Tryz.prog 59 #[.pointer (some ⟨b, 0, none⟩), .iface T v] w fun e w' => ∃ b', e = .returned (.pointer (some ⟨b', 0, none⟩)) ∧ Meth w' b' s k (.iface T v) ∧ Below w.heap.size w w' := by
  have c0 := h.cell 0 (by simp)
  have c1 := h.cell 1 (by simp)
  go_enter Tryz.func59, Tryz.ntmps59
  go_wp2_with fail
  go_region
  go_wp2_with fail
  go_ret
  exact ⟨_, rfl, by unfold Meth Blk; exact heap_alloc_new w _, below_drew1 ((Below.refl _ _).alloc (Nat.le_refl _) _)⟩
theorem assertStr (s : ByteArray) (w : World) : (Instr.typeAssert (.iface 91 (.string s)) 47 91 false).run Tryz.prog w = .ok (.string s) w := by kernel_rfl
theorem assertBool (b : Bool) (w : World) : (Instr.typeAssert (.iface 82 (.bool b)) 47 82 true).run Tryz.prog w = .ok (.tuple #[.bool b, .bool true]) w := by kernel_rfl
theorem ofTruth_any (b : Bool) (w : World) : Calls Tryz.prog 32 #[.iface 82 (.bool b), .nilIface] w fun e w' => e = .returned (.tuple #[.bool b, .bool true]) ∧ Below w.heap.size w w' := by
  have ha := assertBool
  cases b <;>
  (go_enter Tryz.func32, Tryz.ntmps32
   go_wp2_with fail
   go_quiet (fail)
   go_wp2_with fail
   go_ret2
   exact ⟨rfl, below_drewN (Below.refl _ _) _⟩)
theorem checkPos0_any (s : ByteArray) (w : World) :
    Calls Tryz.prog 76 #[.string s, .slice none 0 0, .slice none 0 0, .int .i64 0, .int .i64 0] w fun e w' => e = .returned .nilIface ∧ w' = w := by
  go_enter Tryz.func76, Tryz.ntmps76
  go_wp2_with fail
  go_ret
  exact ⟨rfl, rfl⟩
end Go.Proofs.YtggpaejlmfppoaaGreat
